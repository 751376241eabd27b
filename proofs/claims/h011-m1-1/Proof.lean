import JvmDerived
import JvmDerived.Pilot.@@N@@Statement
import JvmDerived.Pilot.@@N@@Code
set_option linter.unusedVariables false
set_option linter.unusedSimpArgs false
namespace Jvm.Pilot.@@N@@
open Jvm Jvm.ClassFile Sem Op Lib Jvm.Free Jvm.Stand Jvm.LawKit Jvm.RoadKit Bundle Jvm.Pilot.@@N@@.Jvm.D
section OwnKit
variable {p : Program} {l : Launch} {e : Env} {R : Room} {s : State} {m : MethodId} {args : Array Value} {below : List Frame} {meth : Method} {c : Code} {T : State} {locs : List Loc} {cells slots : Nat} {Z : State} {a0 : Array Value} {h : Heap}
/-- from U the invocation ends, returns v, and Q holds of v, the heap and the written places -/
def OGo (p : Program) (e : Env) (below : List Frame) (s : State) (R : Room) (Q : Option Value → Heap → List Loc → Prop) (U : State) : Prop :=
  ∃ s₂ o, Steps p.tables e below U s₂ ∧ s₂.status = .running ∧ Ended s₂ below o ∧ ∃ v L, o = .returned v ∧ Q v s₂.heap L ∧ FrameEnd s o s₂ L R.cells R.slots
variable {Q : Option Value → Heap → List Loc → Prop}
theorem own_st {A B : State} (hs : ∀ t, Steps p.tables e below A t → Steps p.tables e below B t) (k : OGo p e below s R Q A) : OGo p e below s R Q B := by
  obtain ⟨t, o, h1, h2⟩ := k
  exact ⟨t, o, hs t h1, h2⟩
theorem own_ret {v : Option Value} {U : State} (X : Stand p l e R s m args below meth c T locs cells slots) (hlk : meth.locks = false) (hv : meth.sig.returnType = none → v = none) (hc : cells ≤ R.cells) (hs : slots ≤ R.slots) (hq : Q v T.heap locs)
    (st : ∀ fs, (∀ (f : JFrame) (acts : List Action), f.method = m → f.locked = none → f.entered = [] → (doReturn e (T.setTop f) acts v).1 = T.setFrames fs) → Steps p.tables e below U (T.setFrames fs)) : OGo p e below s R Q U := by
  obtain ⟨fs, hr, hrun, hended, hW, hsame⟩ := X.leave (v := v) hv hlk
  exact ⟨_, _, st fs hr, hrun, hended, v, locs, rfl, hq, ⟨_, rfl⟩, hW, hsame.mono hc hs⟩
theorem own_retV (X : Stand p l e R s m args below meth c T locs cells slots) (hx : p.tables.exec = Jvm.exec) (hlk : meth.locks = false) {pc : Nat} {Ls : Array Slot} (hret : meth.sig.returnType = none) (hd : decode c.code pc = .ok (.return_, 1)) (hc : cells ≤ R.cells) (hs : slots ≤ R.slots) (hq : Q none T.heap locs) :
    OGo p e below s R Q (T.setTop (mkF m pc Ls [])) :=
  own_ret X hlk (fun _ => rfl) hc hs hq fun fs hr => X.returnOut hx hret hd hr
theorem own_retN (X : Stand p l e R s m args below meth c T locs cells slots) (hx : p.tables.exec = Jvm.exec) (hlk : meth.locks = false) {pc : Nat} {Ls : Array Slot} {z : Int32} {t : FieldType} {rest : List Value} (hret : meth.sig.returnType = some t) (ht : t = .boolean ∨ t = .byte ∨ t = .char ∨ t = .short)
    (hd : decode c.code pc = .ok (.ireturn, 1)) (hc : cells ≤ R.cells) (hs : slots ≤ R.slots) (hq : Q (some (.int (nar t z))) T.heap locs) : OGo p e below s R Q (T.setTop (mkF m pc Ls (.int z :: rest))) :=
  own_ret X hlk (fun q => by rw [hret] at q; cases q) hc hs hq fun fs hr => retN X hx hret ht hd hr
theorem own_retI (X : Stand p l e R s m args below meth c T locs cells slots) (hx : p.tables.exec = Jvm.exec) (hlk : meth.locks = false) {pc : Nat} {Ls : Array Slot} {z : Int32} {rest : List Value} (hret : meth.sig.returnType = some .int)
    (hd : decode c.code pc = .ok (.ireturn, 1)) (hc : cells ≤ R.cells) (hs : slots ≤ R.slots) (hq : Q (some (.int z)) T.heap locs) : OGo p e below s R Q (T.setTop (mkF m pc Ls (.int z :: rest))) :=
  own_ret X hlk (fun q => by rw [hret] at q; cases q) hc hs hq fun fs hr => by
    have hm' : T.vm.method? m = some meth := X.method'
    have hn : narrow .int (.int z) = .int z := rfl
    show Steps p.tables e below (T.setTop { method := m, pc := pc, locals := Ls, stack := _ :: rest, locked := none }) _
    jvm_step X.here [X.here.top, hx, hd, hm', hret, hn]
    first | (intro acts; rw [hr _ acts rfl rfl rfl]) | rw [hr _ _ rfl rfl rfl]
    exact Steps.refl _
theorem own_retJ (X : Stand p l e R s m args below meth c T locs cells slots) (hx : p.tables.exec = Jvm.exec) (hlk : meth.locks = false) {pc : Nat} {Ls : Array Slot} {z : Int64} {rest : List Value} (hret : meth.sig.returnType = some .long)
    (hd : decode c.code pc = .ok (.lreturn, 1)) (hc : cells ≤ R.cells) (hs : slots ≤ R.slots) (hq : Q (some (.long z)) T.heap locs) : OGo p e below s R Q (T.setTop (mkF m pc Ls (.long z :: rest))) :=
  own_ret X hlk (fun q => by rw [hret] at q; cases q) hc hs hq fun fs hr => by
    show Steps p.tables e below (T.setTop { method := m, pc := pc, locals := Ls, stack := _ :: rest, locked := none }) _
    jvm_step X.here [X.here.top, hx, hd, X.method', hret, narrow]
    first | (intro acts; rw [hr _ acts rfl rfl rfl]) | rw [hr _ _ rfl rfl rfl]
    exact Steps.refl _
theorem own_retA (X : Stand p l e R s m args below meth c T locs cells slots) (hx : p.tables.exec = Jvm.exec) (hlk : meth.locks = false) {pc : Nat} {Ls : Array Slot} {z : Value} {rest : List Value} {t : FieldType} (hret : meth.sig.returnType = some t) (hz : z.isRef = true) (ht : t.isReference = true)
    (hd : decode c.code pc = .ok (.areturn, 1)) (hc : cells ≤ R.cells) (hs : slots ≤ R.slots) (hq : Q (some z) T.heap locs) : OGo p e below s R Q (T.setTop (mkF m pc Ls (z :: rest))) :=
  own_ret X hlk (fun q => by rw [hret] at q; cases q) hc hs hq fun fs hr => by
    show Steps p.tables e below (T.setTop { method := m, pc := pc, locals := Ls, stack := _ :: rest, locked := none }) _
    jvm_step X.here [X.here.top, hx, hd, X.method', hret, hz, ht]
    first | (intro acts; rw [hr _ acts rfl rfl rfl]) | rw [hr _ _ rfl rfl rfl]
    exact Steps.refl _
/-- the contract of a body at the arguments 'as' and the heap h0 -/
abbrev OMet (l : Launch) (Z : State) (y : MethodName) (bytes : ByteArray) (ml : Nat) (rt : Option FieldType) (ws : List Jvm.Cond) (R : Room) (as : Array Value) (h0 : Heap) (Q : Option Value → Heap → List Loc → Prop) : Prop :=
  MetFree l y (head1 (Jvm.Cond.code y bytes ml rt :: ws) R) (fun a U => a = as ∧ Z.Warmed39 U.vm ∧ U.heap = h0) (fun _ _ _ _ _ => True) (fun _ U o U' => ∃ v L, o = .returned v ∧ Q v U'.heap L ∧ FrameEnd U o U' L R.cells R.slots)
/-- .. of one that returns v and leaves everything -/
abbrev OPure (l : Launch) (Z : State) (y : MethodName) (bytes : ByteArray) (ml : Nat) (rt : Option FieldType) (ws : List Jvm.Cond) (R : Room) (as : Array Value) (h0 : Heap) (v : Option Value) : Prop :=
  OMet l Z y bytes ml rt ws R as h0 (fun v' h' L => v' = v ∧ L = [] ∧ h' = h0)
theorem own_body {y : MethodName} {bytes : ByteArray} {ml : Nat} {rt : Option FieldType} {ws : List Jvm.Cond} {as : Array Value} {h0 : Heap} {L0 : Array Slot} (hp : plainFor y = true) (ef : ∀ m, entryFrame m as ml = mkF m 0 L0 [])
    (body : ∀ p e s m below meth c T, p.tables.exec = Jvm.exec → c.code = bytes → c.maxLocals = ml → s.vm.findClass y.cls = some m.cls → meth.name = y.name → meth.sig.returnType = rt → meth.locks = false → Z.Warmed39 s.vm →
      Stand p l e R s m as below meth c T [] 0 0 → T.heap = h0 → OGo p e below s R Q (T.setTop (mkF m 0 L0 []))) : OMet l Z y bytes ml rt ws R as h0 Q := by
  refine MetFree.of_bodySF hp hisR ?_
  intro p e s m args below meth c s₁ Bd hml0 hP hK
  obtain ⟨rfl, hZ, hh⟩ := hP
  have X0 : Stand p l e R s m _ below meth c s₁ [] 0 0 := Stand.of_body Bd
  obtain ⟨t, o, h1, h2⟩ := body p e s m below meth c s₁ Bd.exec Bd.bytes hml0 (findClass_of_methodNamed Bd.named) (name_of_methodNamed Bd.named Bd.method).1 Bd.returns Bd.notSynchronized hZ X0 (by rw [← hh, Bd.state]; rfl)
  exact ⟨t, o, castTop (ef m) h1, h2⟩
variable {own : String} {index : Nat} {y z : MethodName} {bytes : ByteArray} {ml W : Nat} {rt : Option FieldType} {rm : Room} {as : Array Value}
theorem own_callS (X : Stand p l e R s m args below meth c T locs cells slots) (hx : p.tables.exec = Jvm.exec) (hZ : Z.Warmed39 s.vm) (hown : s.vm.findClass own = some m.cls)
    (w1 : (Jvm.Cond.methodLink own index y).before a0 Z = true) (w2 : (Jvm.Cond.static y).before a0 Z = true) (w3 : (Jvm.Cond.initialized y.cls).before a0 Z = true) (w4 : (Jvm.Cond.code y bytes ml rt).before a0 Z = true)
    (hy : y.cls ≠ "java/lang/invoke/MethodHandle" ∧ y.cls ≠ "java/lang/invoke/VarHandle") (hM : OMet l Z y bytes ml rt [] rm as h Q) (hf : rm.frames + 1 ≤ R.frames) (hl : W + (ml + 11) + rm.locals ≤ R.locals)
    {g : JFrame} (hg : g.method = m) (hsz : g.locals.size = c.maxLocals) {argsL rest : List Value} (hlen : ∀ sig, parseMethodDescriptor y.desc = some sig → argsL.length = sig.parameters.length) (hstack : g.stack = argsL.reverse ++ rest)
    (hW : 2 * g.monitorRoom + (rest.map fun v => v.category).sum ≤ W) (hd : decode c.code g.pc = .ok (.invokestatic index, 3)) (ha : argsL.toArray = as) (eT : T.heap = h) (hc : cells + rm.cells ≤ R.cells) (hs : slots + rm.slots ≤ R.slots) :
    ∃ v T' L, Stand p l e R s m args below meth c T' (locs ++ L) (cells + rm.cells) (slots + rm.slots) ∧ Q v T'.heap L ∧ ∀ t, Steps p.tables e below (T'.setTop { g with pc := g.pc + 3, stack := v.toList ++ rest }) t → Steps p.tables e below (T.setTop g) t := by
  obtain ⟨v, _, ⟨T3, L3, k3, n3⟩, -, X3, ⟨Lc3, hQ3, l3, y3, z3⟩, st3⟩ := Jvm.LawKit.callS X hx (y := y) hown (mvT hZ w1) (mvT hZ w2) (mvT hZ w3) (mvT hZ w4) hy (backOf (W := W) hM hZ w4 w3 hf hl) hg hsz hlen hstack hW hd (fun _ _ => ⟨ha, eT, hc, hs⟩)
  dsimp only [Pt.U, Pt.locs, Pt.cells, Pt.slots] at X3 l3 y3 z3 st3 hQ3
  subst l3 y3 z3
  exact ⟨v, T3, Lc3, X3, hQ3, st3⟩
theorem own_callSP {v0 : Option Value} (X : Stand p l e R s m args below meth c T locs cells slots) (hx : p.tables.exec = Jvm.exec) (hZ : Z.Warmed39 s.vm) (hown : s.vm.findClass own = some m.cls)
    (w1 : (Jvm.Cond.methodLink own index y).before a0 Z = true) (w2 : (Jvm.Cond.static y).before a0 Z = true) (w3 : (Jvm.Cond.initialized y.cls).before a0 Z = true) (w4 : (Jvm.Cond.code y bytes ml rt).before a0 Z = true)
    (hy : y.cls ≠ "java/lang/invoke/MethodHandle" ∧ y.cls ≠ "java/lang/invoke/VarHandle") (hM : OPure l Z y bytes ml rt [] rm as h v0) (hf : rm.frames + 1 ≤ R.frames) (hl : W + (ml + 11) + rm.locals ≤ R.locals)
    {g : JFrame} (hg : g.method = m) (hsz : g.locals.size = c.maxLocals) {argsL rest : List Value} (hlen : ∀ sig, parseMethodDescriptor y.desc = some sig → argsL.length = sig.parameters.length) (hstack : g.stack = argsL.reverse ++ rest)
    (hW : 2 * g.monitorRoom + (rest.map fun v => v.category).sum ≤ W) (hd : decode c.code g.pc = .ok (.invokestatic index, 3)) (ha : argsL.toArray = as) (eT : T.heap = h) (hc : cells + rm.cells ≤ R.cells) (hs : slots + rm.slots ≤ R.slots) :
    ∃ T', Stand p l e R s m args below meth c T' locs (cells + rm.cells) (slots + rm.slots) ∧ T'.heap = h ∧ ∀ t, Steps p.tables e below (T'.setTop { g with pc := g.pc + 3, stack := v0.toList ++ rest }) t → Steps p.tables e below (T.setTop g) t := by
  obtain ⟨v, T', L, X', ⟨rfl, rfl, e'⟩, st⟩ := own_callS X hx hZ hown w1 w2 w3 w4 hy hM hf hl hg hsz hlen hstack hW hd ha eT hc hs
  rw [List.append_nil] at X'
  exact ⟨T', X', e', st⟩
theorem own_callI (X : Stand p l e R s m args below meth c T locs cells slots) (hx : p.tables.exec = Jvm.exec) (hZ : Z.Warmed39 s.vm) (hy1 : y.name = "<init>") (hown : s.vm.findClass own = some m.cls)
    (w1 : (Jvm.Cond.methodLink own index y).before a0 Z = true) (w2 : (Jvm.Cond.instanceMethod y).before a0 Z = true) (w4 : (Jvm.Cond.code y bytes ml none).before a0 Z = true) (w3 : (Jvm.Cond.initialized y.cls).before a0 Z = true)
    (hy : y.cls ≠ "java/lang/invoke/MethodHandle" ∧ y.cls ≠ "java/lang/invoke/VarHandle") (hM : OMet l Z y bytes ml none [] rm as h Q) (hf : rm.frames + 1 ≤ R.frames) (hl : W + (ml + 11) + rm.locals ≤ R.locals) {a : Addr}
    {g : JFrame} (hg : g.method = m) (hsz : g.locals.size = c.maxLocals) {argsL rest : List Value} (hlen : ∀ sig, parseMethodDescriptor y.desc = some sig → argsL.length = sig.parameters.length) (hstack : g.stack = argsL.reverse ++ .ref a :: rest)
    (hW : 2 * g.monitorRoom + (rest.map fun v => v.category).sum ≤ W) (hd : decode c.code g.pc = .ok (.invokespecial index, 3)) (ha : (.ref a :: argsL).toArray = as) (eT : T.heap = h) (hc : cells + rm.cells ≤ R.cells) (hs : slots + rm.slots ≤ R.slots) :
    ∃ v T' L, Stand p l e R s m args below meth c T' (locs ++ L) (cells + rm.cells) (slots + rm.slots) ∧ Q v T'.heap L ∧ ∀ t, Steps p.tables e below (T'.setTop { g with pc := g.pc + 3, stack := v.toList ++ rest }) t → Steps p.tables e below (T.setTop g) t := by
  obtain ⟨v, _, ⟨T3, L3, k3, n3⟩, -, X3, ⟨Lc3, hQ3, l3, y3, z3⟩, st3⟩ := X.specialBack hx (y := y) hy1 hown (mvT hZ w1) (mvT hZ w2) (mvT hZ w4) hy (backOf (W := W) hM hZ w4 w3 hf hl) hg hsz (Steps.refl _) (a := a) hlen hstack hW hd (fun _ _ => ⟨ha, eT, hc, hs⟩)
  dsimp only [Pt.U, Pt.locs, Pt.cells, Pt.slots] at X3 l3 y3 z3 st3 hQ3
  subst l3 y3 z3
  exact ⟨v, T3, Lc3, X3, hQ3, fun t k => st3.trans k⟩
theorem own_callIP {v0 : Option Value} (X : Stand p l e R s m args below meth c T locs cells slots) (hx : p.tables.exec = Jvm.exec) (hZ : Z.Warmed39 s.vm) (hy1 : y.name = "<init>") (hown : s.vm.findClass own = some m.cls)
    (w1 : (Jvm.Cond.methodLink own index y).before a0 Z = true) (w2 : (Jvm.Cond.instanceMethod y).before a0 Z = true) (w4 : (Jvm.Cond.code y bytes ml none).before a0 Z = true) (w3 : (Jvm.Cond.initialized y.cls).before a0 Z = true)
    (hy : y.cls ≠ "java/lang/invoke/MethodHandle" ∧ y.cls ≠ "java/lang/invoke/VarHandle") (hM : OPure l Z y bytes ml none [] rm as h v0) (hf : rm.frames + 1 ≤ R.frames) (hl : W + (ml + 11) + rm.locals ≤ R.locals) {a : Addr}
    {g : JFrame} (hg : g.method = m) (hsz : g.locals.size = c.maxLocals) {argsL rest : List Value} (hlen : ∀ sig, parseMethodDescriptor y.desc = some sig → argsL.length = sig.parameters.length) (hstack : g.stack = argsL.reverse ++ .ref a :: rest)
    (hW : 2 * g.monitorRoom + (rest.map fun v => v.category).sum ≤ W) (hd : decode c.code g.pc = .ok (.invokespecial index, 3)) (ha : (.ref a :: argsL).toArray = as) (eT : T.heap = h) (hc : cells + rm.cells ≤ R.cells) (hs : slots + rm.slots ≤ R.slots) :
    ∃ T', Stand p l e R s m args below meth c T' locs (cells + rm.cells) (slots + rm.slots) ∧ T'.heap = h ∧ ∀ t, Steps p.tables e below (T'.setTop { g with pc := g.pc + 3, stack := v0.toList ++ rest }) t → Steps p.tables e below (T.setTop g) t := by
  obtain ⟨v, T', L, X', ⟨rfl, rfl, e'⟩, st⟩ := own_callI X hx hZ hy1 hown w1 w2 w4 w3 hy hM hf hl hg hsz hlen hstack hW hd ha eT hc hs
  rw [List.append_nil] at X'
  exact ⟨T', X', e', st⟩
theorem own_callV {C : String} (X : Stand p l e R s m args below meth c T locs cells slots) (hx : p.tables.exec = Jvm.exec) (hZ : Z.Warmed39 s.vm) (hown : s.vm.findClass own = some m.cls)
    (w1 : (Jvm.Cond.methodLink own index y).before a0 Z = true) (w2 : (Jvm.Cond.declares y).before a0 Z = true) (hnf : NotFace s y) (ws : (Jvm.Cond.selects C y z).before a0 Z = true) (wi : (Jvm.Cond.instanceMethod z).before a0 Z = true)
    (w4 : (Jvm.Cond.code z bytes ml rt).before a0 Z = true) (w3 : (Jvm.Cond.initialized z.cls).before a0 Z = true)
    (hy : y.cls ≠ "java/lang/invoke/MethodHandle" ∧ y.cls ≠ "java/lang/invoke/VarHandle") (hM : OMet l Z z bytes ml rt [] rm as h Q) (hf : rm.frames + 1 ≤ R.frames) (hl : W + (ml + 11) + rm.locals ≤ R.locals) {a : Addr} (E : Exa Z h a C)
    {g : JFrame} (hg : g.method = m) (hsz : g.locals.size = c.maxLocals) {argsL rest : List Value} (hlen : ∀ sig, parseMethodDescriptor y.desc = some sig → argsL.length = sig.parameters.length) (hstack : g.stack = argsL.reverse ++ .ref a :: rest)
    (hW : 2 * g.monitorRoom + (rest.map fun v => v.category).sum ≤ W) (hd : decode c.code g.pc = .ok (.invokevirtual index, 3)) (ha : (.ref a :: argsL).toArray = as) (eT : T.heap = h) (hc : cells + rm.cells ≤ R.cells) (hs : slots + rm.slots ≤ R.slots) :
    ∃ v T' L, Stand p l e R s m args below meth c T' (locs ++ L) (cells + rm.cells) (slots + rm.slots) ∧ Q v T'.heap L ∧ ∀ t, Steps p.tables e below (T'.setTop { g with pc := g.pc + 3, stack := v.toList ++ rest }) t → Steps p.tables e below (T.setTop g) t := by
  obtain ⟨cq, kq, qa, qb, qc⟩ := isOf hZ eT E
  obtain ⟨v, _, ⟨T3, L3, k3, n3⟩, -, X3, ⟨Lc3, hQ3, l3, y3, z3⟩, st3⟩ := X.virtualBack hx (y := y) (z := z) hown (mvT hZ w1) (mvT hZ w2) hnf (mvT hZ ws) (mvT hZ wi) hy (backOf (W := W) hM hZ w4 w3 hf hl) qa qc hg hsz (Steps.refl _) hlen hstack hW hd (fun _ _ => ⟨ha, eT, hc, hs⟩)
  dsimp only [Pt.U, Pt.locs, Pt.cells, Pt.slots] at X3 l3 y3 z3 st3 hQ3
  subst l3 y3 z3
  exact ⟨v, T3, Lc3, X3, hQ3, fun t k => st3.trans k⟩
theorem own_callVP {C : String} {v0 : Option Value} (X : Stand p l e R s m args below meth c T locs cells slots) (hx : p.tables.exec = Jvm.exec) (hZ : Z.Warmed39 s.vm) (hown : s.vm.findClass own = some m.cls)
    (w1 : (Jvm.Cond.methodLink own index y).before a0 Z = true) (w2 : (Jvm.Cond.declares y).before a0 Z = true) (hnf : NotFace s y) (ws : (Jvm.Cond.selects C y z).before a0 Z = true) (wi : (Jvm.Cond.instanceMethod z).before a0 Z = true)
    (w4 : (Jvm.Cond.code z bytes ml rt).before a0 Z = true) (w3 : (Jvm.Cond.initialized z.cls).before a0 Z = true)
    (hy : y.cls ≠ "java/lang/invoke/MethodHandle" ∧ y.cls ≠ "java/lang/invoke/VarHandle") (hM : OPure l Z z bytes ml rt [] rm as h v0) (hf : rm.frames + 1 ≤ R.frames) (hl : W + (ml + 11) + rm.locals ≤ R.locals) {a : Addr} (E : Exa Z h a C)
    {g : JFrame} (hg : g.method = m) (hsz : g.locals.size = c.maxLocals) {argsL rest : List Value} (hlen : ∀ sig, parseMethodDescriptor y.desc = some sig → argsL.length = sig.parameters.length) (hstack : g.stack = argsL.reverse ++ .ref a :: rest)
    (hW : 2 * g.monitorRoom + (rest.map fun v => v.category).sum ≤ W) (hd : decode c.code g.pc = .ok (.invokevirtual index, 3)) (ha : (.ref a :: argsL).toArray = as) (eT : T.heap = h) (hc : cells + rm.cells ≤ R.cells) (hs : slots + rm.slots ≤ R.slots) :
    ∃ T', Stand p l e R s m args below meth c T' locs (cells + rm.cells) (slots + rm.slots) ∧ T'.heap = h ∧ ∀ t, Steps p.tables e below (T'.setTop { g with pc := g.pc + 3, stack := v0.toList ++ rest }) t → Steps p.tables e below (T.setTop g) t := by
  obtain ⟨v, T', L, X', ⟨rfl, rfl, e'⟩, st⟩ := own_callV X hx hZ hown w1 w2 hnf ws wi w4 w3 hy hM hf hl E hg hsz hlen hstack hW hd ha eT hc hs
  rw [List.append_nil] at X'
  exact ⟨T', X', e', st⟩
theorem own_callR (X : Stand p l e R s m args below meth c T locs cells slots) (hx : p.tables.exec = Jvm.exec) (hZ : Z.Warmed39 s.vm) (hown : s.vm.findClass own = some m.cls)
    (w1 : (Jvm.Cond.methodLink own index y).before a0 Z = true) (w2 : (Jvm.Cond.instanceMethod y).before a0 Z = true) (ws : (Jvm.Cond.selects y.cls y y).before a0 Z = true) (wp : (Jvm.Cond.privateMethod y).before a0 Z = true)
    (w4 : (Jvm.Cond.code y bytes ml rt).before a0 Z = true) (w3 : (Jvm.Cond.initialized y.cls).before a0 Z = true)
    (hy : y.cls ≠ "java/lang/invoke/MethodHandle" ∧ y.cls ≠ "java/lang/invoke/VarHandle") (hM : OMet l Z y bytes ml rt [] rm as h Q) (hf : rm.frames + 1 ≤ R.frames) (hl : W + (ml + 11) + rm.locals ≤ R.locals) {a : Addr} {C : String} (E : Exa Z h a C)
    {g : JFrame} (hg : g.method = m) (hsz : g.locals.size = c.maxLocals) {argsL rest : List Value} (hlen : ∀ sig, parseMethodDescriptor y.desc = some sig → argsL.length = sig.parameters.length) (hstack : g.stack = argsL.reverse ++ .ref a :: rest)
    (hW : 2 * g.monitorRoom + (rest.map fun v => v.category).sum ≤ W) (hd : decode c.code g.pc = .ok (.invokevirtual index, 3)) (ha : (.ref a :: argsL).toArray = as) (eT : T.heap = h) (hc : cells + rm.cells ≤ R.cells) (hs : slots + rm.slots ≤ R.slots) :
    ∃ v T' L, Stand p l e R s m args below meth c T' (locs ++ L) (cells + rm.cells) (slots + rm.slots) ∧ Q v T'.heap L ∧ ∀ t, Steps p.tables e below (T'.setTop { g with pc := g.pc + 3, stack := v.toList ++ rest }) t → Steps p.tables e below (T.setTop g) t := by
  obtain ⟨cq, qa, qb⟩ := E.cell
  obtain ⟨v, _, ⟨T3, L3, k3, n3⟩, -, X3, ⟨Lc3, hQ3, l3, y3, z3⟩, st3⟩ := X.privateBack hx (y := y) hown (mvT hZ w1) (mvT hZ w2) (mvT hZ ws) (Cond.privateMethod_at (mvP hZ wp (args := #[]))) (mvT hZ w4) hy (backOf (W := W) hM hZ w4 w3 hf hl) hg hsz (Steps.refl _) (a := a) (by rw [eT]; exact qa) qb hlen hstack hW hd (fun _ _ => ⟨ha, eT, hc, hs⟩)
  dsimp only [Pt.U, Pt.locs, Pt.cells, Pt.slots] at X3 l3 y3 z3 st3 hQ3
  subst l3 y3 z3
  exact ⟨v, T3, Lc3, X3, hQ3, fun t k => st3.trans k⟩
theorem own_callRP {v0 : Option Value} (X : Stand p l e R s m args below meth c T locs cells slots) (hx : p.tables.exec = Jvm.exec) (hZ : Z.Warmed39 s.vm) (hown : s.vm.findClass own = some m.cls)
    (w1 : (Jvm.Cond.methodLink own index y).before a0 Z = true) (w2 : (Jvm.Cond.instanceMethod y).before a0 Z = true) (ws : (Jvm.Cond.selects y.cls y y).before a0 Z = true) (wp : (Jvm.Cond.privateMethod y).before a0 Z = true)
    (w4 : (Jvm.Cond.code y bytes ml rt).before a0 Z = true) (w3 : (Jvm.Cond.initialized y.cls).before a0 Z = true)
    (hy : y.cls ≠ "java/lang/invoke/MethodHandle" ∧ y.cls ≠ "java/lang/invoke/VarHandle") (hM : OPure l Z y bytes ml rt [] rm as h v0) (hf : rm.frames + 1 ≤ R.frames) (hl : W + (ml + 11) + rm.locals ≤ R.locals) {a : Addr} {C : String} (E : Exa Z h a C)
    {g : JFrame} (hg : g.method = m) (hsz : g.locals.size = c.maxLocals) {argsL rest : List Value} (hlen : ∀ sig, parseMethodDescriptor y.desc = some sig → argsL.length = sig.parameters.length) (hstack : g.stack = argsL.reverse ++ .ref a :: rest)
    (hW : 2 * g.monitorRoom + (rest.map fun v => v.category).sum ≤ W) (hd : decode c.code g.pc = .ok (.invokevirtual index, 3)) (ha : (.ref a :: argsL).toArray = as) (eT : T.heap = h) (hc : cells + rm.cells ≤ R.cells) (hs : slots + rm.slots ≤ R.slots) :
    ∃ T', Stand p l e R s m args below meth c T' locs (cells + rm.cells) (slots + rm.slots) ∧ T'.heap = h ∧ ∀ t, Steps p.tables e below (T'.setTop { g with pc := g.pc + 3, stack := v0.toList ++ rest }) t → Steps p.tables e below (T.setTop g) t := by
  obtain ⟨v, T', L, X', ⟨rfl, rfl, e'⟩, st⟩ := own_callR X hx hZ hown w1 w2 ws wp w4 w3 hy hM hf hl E hg hsz hlen hstack hW hd ha eT hc hs
  rw [List.append_nil] at X'
  exact ⟨T', X', e', st⟩
/-- the array at a has n places; place j holds f j -/
def OAr (Z : State) (h : Heap) (a : Addr) (ty : FieldType) (n : Nat) (f : Nat → Value) : Prop := ∃ c : Cell, Arr Z h a c ty ∧ c.slots.size = n ∧ ∀ j, j < n → c.slots[j]? = some (f j)
section OwnArr
variable {h' : Heap} {a b : Addr} {ty : FieldType} {n sl : Nat} {f f' : Nat → Value} {v : Value} {k : ClassId} {i : Int32}
theorem OAr.lt (F : OAr Z h a ty n f) : a < h.size := by obtain ⟨c, A, -⟩ := F; exact A.lt
theorem OAr.ext (F : OAr Z h a ty n f) (E : Ext h h') : OAr Z h' a ty n f := by obtain ⟨c, A, r⟩ := F; exact ⟨c, A.ext E, r⟩
theorem OAr.other (F : OAr Z h a ty n f) (W : Wr h h' b sl v) (q : a ≠ b) : OAr Z h' a ty n f := by obtain ⟨c, A, r⟩ := F; exact ⟨c, A.other W q, r⟩
theorem OAr.keep {ws : List Addr} (F : OAr Z h a ty n f) (K : Keep h h' ws) (q : a ∉ ws) : OAr Z h' a ty n f := by obtain ⟨c, A, r⟩ := F; exact ⟨c, ⟨K.2.1 a c A.1 q, A.2⟩, r⟩
theorem OAr.cong (F : OAr Z h a ty n f) (q : ∀ j, j < n → f j = f' j) : OAr Z h a ty n f' := by obtain ⟨c, A, S, H⟩ := F; exact ⟨c, A, S, fun j hj => by rw [← q j hj]; exact H j hj⟩
theorem OAr.new (A : Arr Z h a (newA k ty i) ty) : OAr Z h a ty i.toNatClampNeg (fun _ => defaultValue ty) := ⟨_, A, sz_new _ _ _, fun j hj => by simp [newA, hj]⟩
theorem OAr.set {c : Cell} (A : Arr Z h a c ty) (S : c.slots.size = n) (H : ∀ j, j < n → c.slots[j]? = some (f j)) (W : Wr h h' a sl v) : OAr Z h' a ty n (fun j => if j = sl then v else f j) := by
  refine ⟨_, A.same W, by rw [sz_set]; exact S, fun j hj => ?_⟩
  by_cases q : j = sl
  · subst q
    simp [Cell.setSlot, S, hj]
  · simp only [q, if_false, Cell.setSlot]
    rw [Array.getElem?_setIfInBounds_ne (Ne.symm q)]
    exact H j hj
theorem own_in {c : Cell} (S : c.slots.size = n) (h0 : ¬ i < 0) (h1 : i.toNatClampNeg < n) : ¬ (i < 0 ∨ c.slots.size ≤ i.toNatClampNeg) := by
  rintro (q | q)
  · exact h0 q
  · omega
/-- the clone of an array -/
theorem own_clone {own ad : String} {index : Nat} (X : Stand p l e R s m args below meth c T locs cells slots) (hx : p.tables.exec = Jvm.exec) (hZ : Z.Warmed39 s.vm) (hown : s.vm.findClass own = some m.cls)
    (w1 : (Jvm.Cond.methodLink own index ⟨ad, "clone", "()Ljava/lang/Object;"⟩).before a0 Z = true) (w2 : (Jvm.Cond.sameMethod ad "java/lang/Object" "clone" "()Ljava/lang/Object;").before a0 Z = true) (w3 : (Jvm.Cond.native ⟨"java/lang/Object", "clone", "()Ljava/lang/Object;"⟩).before a0 Z = true)
    (w4 : (Jvm.Cond.instanceMethod ⟨"java/lang/Object", "clone", "()Ljava/lang/Object;"⟩).before a0 Z = true) (w5 : (Jvm.Cond.selects ad ⟨ad, "clone", "()Ljava/lang/Object;"⟩ ⟨"java/lang/Object", "clone", "()Ljava/lang/Object;"⟩).before a0 Z = true) (w6 : (Jvm.Cond.castable ad "java/lang/Cloneable").before a0 Z = true)
    (eT : T.heap = h) (F : OAr Z h a ty n f) (E : Exa Z h a ad) (hfit : ∀ j, j < n → fits ty (f j) = true) {g : JFrame} (hg : g.method = m) (hsize : g.locals.size = c.maxLocals) {rest : List Value} (hst : g.stack = .ref a :: rest) (hd : decode c.code g.pc = .ok (.invokevirtual index, 3))
    (hf : 1 ≤ R.frames) {W : Nat} (hW : 2 * g.monitorRoom + (rest.map fun v => v.category).sum ≤ W) (hl : W + 14 ≤ R.locals) {cap : Nat} (hcap : n ≤ cap) (hc : cells + 1 ≤ R.cells) (hsl : slots + cap ≤ R.slots) :
    ∃ T' h', Stand p l e R s m args below meth c T' locs (cells + 1) (slots + cap) ∧ T'.heap = h' ∧ Ext h h' ∧ OAr Z h' h.size ty n f ∧ Exa Z h' h.size ad ∧
      ∀ target, Steps p.tables e below (T'.setTop { g with pc := g.pc + 3, stack := .ref h.size :: rest }) target → Steps p.tables e below (T.setTop g) target := by
  obtain ⟨cl, A, S, H⟩ := F
  have FC : FitC Z cl := fitC_of A fun i hi v hv => by rw [H i (S ▸ hi)] at hv; cases hv; exact hfit i (S ▸ hi)
  obtain ⟨T', h', X', e', ex, A', E', st⟩ := cloneA X hx hZ hown w1 w2 w3 w4 w5 w6 eT A E FC hg hsize hst hd hf hW hl (cap := cap) (by rw [S]; exact hcap) hc hsl
  exact ⟨T', h', X', e', ex, ⟨cloneOf cl, A', S, H⟩, E', st⟩
end OwnArr
theorem own_nat {i : Nat} (hi : i < 2 ^ 31) : (Int32.ofNat i).toNatClampNeg = i ∧ ¬ Int32.ofNat i < 0 ∧ (Int32.ofNat i).toInt = i := by
  have q : (Int32.ofNat i).toInt = i := Int32.toInt_ofNat_of_lt hi
  have z : (0 : Int32).toInt = 0 := by decide
  refine ⟨by rw [Int32.toNatClampNeg, q]; simp, ?_, q⟩
  rw [Int32.lt_iff_toInt_lt, q, z]; omega
theorem own_lt {i n : Nat} (hi : i < 2 ^ 31) (hn : n < 2 ^ 31) : Int32.ofNat i < Int32.ofNat n ↔ i < n := by
  rw [Int32.lt_iff_toInt_lt, (own_nat hi).2.2, (own_nat hn).2.2]; omega
theorem own_up (i : Nat) : Int32.ofNat i + (1 : Int32) = Int32.ofNat (i + 1) := (Int32.ofNat_add i 1).symm
abbrev OLawQ (n0 : Nat) : Option Value → Heap → List Loc → Prop := fun v _ L => v = some (.int (1 : Int32)) ∧ Fr n0 L
/-- a boolean as the machine's int -/
def OB (b : Bool) : Int32 := if b then 1 else 0
theorem own_b1 : nar .boolean (1 : Int32) = 1 := by decide
theorem own_b0 : nar .boolean (0 : Int32) = 0 := by decide
theorem own_nb (b : Bool) : nar .boolean (OB b) = OB b := by cases b <;> decide
end OwnKit
/-- n places, each an int -/
def OIn (Z : State) (h : Heap) (a : Addr) (n : Nat) : Prop := ∃ c : Cell, Arr Z h a c .int ∧ c.slots.size = n ∧ ∀ j, j < n → ∃ z : Int32, c.slots[j]? = some (.int z)
theorem OIn.new {Z : State} {h : Heap} {a : Addr} {k : ClassId} {i : Int32} (A : Arr Z h a (newA k .int i) .int) : OIn Z h a i.toNatClampNeg := ⟨_, A, sz_new _ _ _, fun j hj => ⟨0, by simp [newA, hj, defaultValue]⟩⟩
theorem OIn.set {Z : State} {h h' : Heap} {a : Addr} {n sl : Nat} {v : Int32} {c : Cell} (A : Arr Z h a c .int) (S : c.slots.size = n) (H : ∀ j, j < n → ∃ z : Int32, c.slots[j]? = some (.int z)) (W : Wr h h' a sl (.int v)) : OIn Z h' a n := by
  refine ⟨_, A.same W, by rw [sz_set]; exact S, fun j hj => ?_⟩
  by_cases q : j = sl
  · subst q
    exact ⟨v, by simp [Cell.setSlot, S, hj]⟩
  · simp only [Cell.setSlot]
    rw [Array.getElem?_setIfInBounds_ne (Ne.symm q)]
    exact H j hj
def own_minI (a b : Int32) : Int32 := if b < a then b else a
def own_maxI (a b : Int32) : Int32 := if a < b then b else a
def own_tab (j : Nat) : Int32 := if j < 45 then 0 else if j < 47 then 2 else if j < 48 then 0 else if j < 58 then 2 else if j < 59 then 3 else if j < 65 then 0 else if j < 91 then 3 else if j < 95 then 0 else if j < 96 then 3 else if j < 97 then 0 else if j < 123 then 3 else 0
theorem ef_1_II (m : MethodId) (x0 : Int32) (x1 : Int32) : entryFrame m #[(.int x0), (.int x1)] 2 = mkF m 0 #[.val (.int x0), .val (.int x1)] [] := by first | (simp [entryFrame, mkF, argsToLocals, Value.category]; done) | rfl
theorem d1_0 : decode jdk_29_method_69_code 0 = .ok (.iload_n 0, 1) := by decide +kernel
theorem d1_1 : decode jdk_29_method_69_code 1 = .ok (.iload_n 1, 1) := by decide +kernel
theorem d1_2 : decode jdk_29_method_69_code 2 = .ok (.if_icmp .gt 7, 3) := by decide +kernel
theorem d1_9 : decode jdk_29_method_69_code 9 = .ok (.iload_n 1, 1) := by decide +kernel
theorem d1_10 : decode jdk_29_method_69_code 10 = .ok (.ireturn, 1) := by decide +kernel
theorem d1_5 : decode jdk_29_method_69_code 5 = .ok (.iload_n 0, 1) := by decide +kernel
theorem d1_6 : decode jdk_29_method_69_code 6 = .ok (.goto 4, 3) := by decide +kernel
set_option maxRecDepth 65536 in
set_option maxHeartbeats 40000000 in
theorem rm1 (l : Launch) (Z : State) (a0 : Array Value) (hw : ∀ d ∈ tables_1, d.before a0 Z = true) (q1 : Int32) (q2 : Int32) (h0 : Heap) :
    OPure l Z (⟨"java/lang/Math", "min", "(II)I"⟩ : MethodName) jdk_29_method_69_code 2 (some .int) [] ({ frames := 0, cells := 0, slots := 0, locals := 0 } : Room) #[(.int q1), (.int q2)] h0 (some (.int (own_minI q1 q2))) := by
  refine own_body (Jvm.Free.JP.mathPlain rfl (by decide +kernel)) (fun m => ef_1_II m q1 q2) ?_
  intro p e s m below meth c T0 hx hby hml hown hnm hret hlk hZ X0 e0
  have hown : s.vm.findClass "java/lang/Math" = some m.cls := hown
  have hml : c.maxLocals = 2 := hml
  show OGo p e below s _ _ (T0.setTop (mkF m 0 #[.val (.int q1), .val (.int q2)] []))
  refine own_st (fun t k => XS.iloadN X0.here hx rfl (hb hby d1_0) rfl k) ?_
  show OGo p e below s _ _ (T0.setTop (mkF m 1 #[.val (.int q1), .val (.int q2)] [(.int q1)]))
  refine own_st (fun t k => XS.iloadN X0.here hx rfl (hb hby d1_1) rfl k) ?_
  show OGo p e below s _ _ (T0.setTop (mkF m 2 #[.val (.int q1), .val (.int q2)] [(.int q2), (.int q1)]))
  by_cases hc2 : q2 < q1
  · refine own_st (fun t k => XS.icmpYes X0.here hx rfl (pc0 := 2) (pc' := 9) rfl (hb hby d1_2) rfl (tlt (hc2)).2.2.1 (by decide) (by decide) k) ?_
    show OGo p e below s _ _ (T0.setTop (mkF m 9 #[.val (.int q1), .val (.int q2)] []))
    refine own_st (fun t k => XS.iloadN X0.here hx rfl (hb hby d1_9) rfl k) ?_
    show OGo p e below s _ _ (T0.setTop (mkF m 10 #[.val (.int q1), .val (.int q2)] [(.int q2)]))
    exact own_retI X0 hx hlk hret (hb hby d1_10) (by decide) (by decide) (⟨by simp [own_minI, hc2], rfl, e0⟩)
  · refine own_st (fun t k => XS.icmpNo X0.here hx rfl (hb hby d1_2) rfl (flt (hc2)).2.2.1 k) ?_
    show OGo p e below s _ _ (T0.setTop (mkF m 5 #[.val (.int q1), .val (.int q2)] []))
    refine own_st (fun t k => XS.iloadN X0.here hx rfl (hb hby d1_5) rfl k) ?_
    show OGo p e below s _ _ (T0.setTop (mkF m 6 #[.val (.int q1), .val (.int q2)] [(.int q1)]))
    refine own_st (fun t k => XS.goto X0.here hx rfl (pc0 := 6) (pc' := 10) rfl (hb hby d1_6) (by decide) (by decide) k) ?_
    show OGo p e below s _ _ (T0.setTop (mkF m 10 #[.val (.int q1), .val (.int q2)] [(.int q1)]))
    exact own_retI X0 hx hlk hret (hb hby d1_10) (by decide) (by decide) (⟨by simp [own_minI, hc2], rfl, e0⟩)
theorem ef_2_II (m : MethodId) (x0 : Int32) (x1 : Int32) : entryFrame m #[(.int x0), (.int x1)] 2 = mkF m 0 #[.val (.int x0), .val (.int x1)] [] := by first | (simp [entryFrame, mkF, argsToLocals, Value.category]; done) | rfl
theorem d2_0 : decode jdk_29_method_65_code 0 = .ok (.iload_n 0, 1) := by decide +kernel
theorem d2_1 : decode jdk_29_method_65_code 1 = .ok (.iload_n 1, 1) := by decide +kernel
theorem d2_2 : decode jdk_29_method_65_code 2 = .ok (.if_icmp .lt 7, 3) := by decide +kernel
theorem d2_9 : decode jdk_29_method_65_code 9 = .ok (.iload_n 1, 1) := by decide +kernel
theorem d2_10 : decode jdk_29_method_65_code 10 = .ok (.ireturn, 1) := by decide +kernel
theorem d2_5 : decode jdk_29_method_65_code 5 = .ok (.iload_n 0, 1) := by decide +kernel
theorem d2_6 : decode jdk_29_method_65_code 6 = .ok (.goto 4, 3) := by decide +kernel
set_option maxRecDepth 65536 in
set_option maxHeartbeats 40000000 in
theorem rm2 (l : Launch) (Z : State) (a0 : Array Value) (hw : ∀ d ∈ tables_1, d.before a0 Z = true) (q1 : Int32) (q2 : Int32) (h0 : Heap) :
    OPure l Z (⟨"java/lang/Math", "max", "(II)I"⟩ : MethodName) jdk_29_method_65_code 2 (some .int) [] ({ frames := 0, cells := 0, slots := 0, locals := 0 } : Room) #[(.int q1), (.int q2)] h0 (some (.int (own_maxI q1 q2))) := by
  refine own_body (Jvm.Free.JP.mathPlain rfl (by decide +kernel)) (fun m => ef_2_II m q1 q2) ?_
  intro p e s m below meth c T0 hx hby hml hown hnm hret hlk hZ X0 e0
  have hown : s.vm.findClass "java/lang/Math" = some m.cls := hown
  have hml : c.maxLocals = 2 := hml
  show OGo p e below s _ _ (T0.setTop (mkF m 0 #[.val (.int q1), .val (.int q2)] []))
  refine own_st (fun t k => XS.iloadN X0.here hx rfl (hb hby d2_0) rfl k) ?_
  show OGo p e below s _ _ (T0.setTop (mkF m 1 #[.val (.int q1), .val (.int q2)] [(.int q1)]))
  refine own_st (fun t k => XS.iloadN X0.here hx rfl (hb hby d2_1) rfl k) ?_
  show OGo p e below s _ _ (T0.setTop (mkF m 2 #[.val (.int q1), .val (.int q2)] [(.int q2), (.int q1)]))
  by_cases hc2 : q1 < q2
  · refine own_st (fun t k => XS.icmpYes X0.here hx rfl (pc0 := 2) (pc' := 9) rfl (hb hby d2_2) rfl (tlt (hc2)).1 (by decide) (by decide) k) ?_
    show OGo p e below s _ _ (T0.setTop (mkF m 9 #[.val (.int q1), .val (.int q2)] []))
    refine own_st (fun t k => XS.iloadN X0.here hx rfl (hb hby d2_9) rfl k) ?_
    show OGo p e below s _ _ (T0.setTop (mkF m 10 #[.val (.int q1), .val (.int q2)] [(.int q2)]))
    exact own_retI X0 hx hlk hret (hb hby d2_10) (by decide) (by decide) (⟨by simp [own_maxI, hc2], rfl, e0⟩)
  · refine own_st (fun t k => XS.icmpNo X0.here hx rfl (hb hby d2_2) rfl (flt (hc2)).1 k) ?_
    show OGo p e below s _ _ (T0.setTop (mkF m 5 #[.val (.int q1), .val (.int q2)] []))
    refine own_st (fun t k => XS.iloadN X0.here hx rfl (hb hby d2_5) rfl k) ?_
    show OGo p e below s _ _ (T0.setTop (mkF m 6 #[.val (.int q1), .val (.int q2)] [(.int q1)]))
    refine own_st (fun t k => XS.goto X0.here hx rfl (pc0 := 6) (pc' := 10) rfl (hb hby d2_6) (by decide) (by decide) k) ?_
    show OGo p e below s _ _ (T0.setTop (mkF m 10 #[.val (.int q1), .val (.int q2)] [(.int q1)]))
    exact own_retI X0 hx hlk hret (hb hby d2_10) (by decide) (by decide) (⟨by simp [own_maxI, hc2], rfl, e0⟩)
def nb3_188 (q1 : Int32) : Int32 := (0 : Int32)
def nb3_184 (q1 : Int32) : Int32 := (1 : Int32)
def nb3_172 (q1 : Int32) : Int32 := (if q1 < (65536 : Int32) then (nb3_188 q1) else (if (983039 : Int32) < q1 then (nb3_188 q1) else (nb3_184 q1)))
def nb3_160 (q1 : Int32) : Int32 := (if q1 < (65008 : Int32) then (nb3_172 q1) else (if (65533 : Int32) < q1 then (nb3_172 q1) else (nb3_184 q1)))
def nb3_148 (q1 : Int32) : Int32 := (if q1 < (63744 : Int32) then (nb3_160 q1) else (if (64975 : Int32) < q1 then (nb3_160 q1) else (nb3_184 q1)))
def nb3_135 (q1 : Int32) : Int32 := (if q1 < (12289 : Int32) then (nb3_148 q1) else (if (55295 : Int32) < q1 then (nb3_148 q1) else (nb3_184 q1)))
def nb3_121 (q1 : Int32) : Int32 := (if q1 < (11264 : Int32) then (nb3_135 q1) else (if (12271 : Int32) < q1 then (nb3_135 q1) else (nb3_184 q1)))
def nb3_107 (q1 : Int32) : Int32 := (if q1 < (8304 : Int32) then (nb3_121 q1) else (if (8591 : Int32) < q1 then (nb3_121 q1) else (nb3_184 q1)))
def nb3_93 (q1 : Int32) : Int32 := (if q1 < (8204 : Int32) then (nb3_107 q1) else (if (8205 : Int32) < q1 then (nb3_107 q1) else (nb3_184 q1)))
def nb3_79 (q1 : Int32) : Int32 := (if q1 < (895 : Int32) then (nb3_93 q1) else (if (8191 : Int32) < q1 then (nb3_93 q1) else (nb3_184 q1)))
def nb3_65 (q1 : Int32) : Int32 := (if q1 < (880 : Int32) then (nb3_79 q1) else (if (893 : Int32) < q1 then (nb3_79 q1) else (nb3_184 q1)))
def nb3_51 (q1 : Int32) : Int32 := (if q1 < (248 : Int32) then (nb3_65 q1) else (if (767 : Int32) < q1 then (nb3_65 q1) else (nb3_184 q1)))
def nb3_37 (q1 : Int32) : Int32 := (if q1 < (216 : Int32) then (nb3_51 q1) else (if (246 : Int32) < q1 then (nb3_51 q1) else (nb3_184 q1)))
def nb3_23 (q1 : Int32) : Int32 := (if q1 < (192 : Int32) then (nb3_37 q1) else (if (214 : Int32) < q1 then (nb3_37 q1) else (nb3_184 q1)))
def nb3_21 (q1 : Int32) : Int32 := (0 : Int32)
def nb3_0 (q1 : Int32) : Int32 := (if q1 < (128 : Int32) then (if ((own_tab q1.toNatClampNeg) &&& (1 : Int32)) = (0 : Int32) then (0 : Int32) else (1 : Int32)) else (nb3_23 q1))
theorem pn_com_example_cartulary_cartulary_XmlNames : plainName "com/example/cartulary/cartulary/XmlNames" = true := by first | (simp [plainName, overriddenIn]; done) | decide +kernel
theorem ef_3_I (m : MethodId) (x0 : Int32) : entryFrame m #[(.int x0)] 1 = mkF m 0 #[.val (.int x0)] [] := by first | (simp [entryFrame, mkF, argsToLocals, Value.category]; done) | rfl
theorem d3_188 : decode prog_169_method_2_code 188 = .ok (.iconst 0, 1) := by decide +kernel
theorem d3_189 : decode prog_169_method_2_code 189 = .ok (.ireturn, 1) := by decide +kernel
theorem d3_184 : decode prog_169_method_2_code 184 = .ok (.iconst 1, 1) := by decide +kernel
theorem d3_185 : decode prog_169_method_2_code 185 = .ok (.goto 4, 3) := by decide +kernel
theorem d3_172 : decode prog_169_method_2_code 172 = .ok (.iload_n 0, 1) := by decide +kernel
theorem d3_173 : decode prog_169_method_2_code 173 = .ok (.ldc 18, 2) := by decide +kernel
theorem d3_175 : decode prog_169_method_2_code 175 = .ok (.if_icmp .lt 13, 3) := by decide +kernel
theorem d3_178 : decode prog_169_method_2_code 178 = .ok (.iload_n 0, 1) := by decide +kernel
theorem d3_179 : decode prog_169_method_2_code 179 = .ok (.ldc 19, 2) := by decide +kernel
theorem d3_181 : decode prog_169_method_2_code 181 = .ok (.if_icmp .gt 7, 3) := by decide +kernel
theorem d3_160 : decode prog_169_method_2_code 160 = .ok (.iload_n 0, 1) := by decide +kernel
theorem d3_161 : decode prog_169_method_2_code 161 = .ok (.ldc 16, 2) := by decide +kernel
theorem d3_163 : decode prog_169_method_2_code 163 = .ok (.if_icmp .lt 9, 3) := by decide +kernel
theorem d3_166 : decode prog_169_method_2_code 166 = .ok (.iload_n 0, 1) := by decide +kernel
theorem d3_167 : decode prog_169_method_2_code 167 = .ok (.ldc 17, 2) := by decide +kernel
theorem d3_169 : decode prog_169_method_2_code 169 = .ok (.if_icmp .le 15, 3) := by decide +kernel
theorem d3_148 : decode prog_169_method_2_code 148 = .ok (.iload_n 0, 1) := by decide +kernel
theorem d3_149 : decode prog_169_method_2_code 149 = .ok (.ldc 14, 2) := by decide +kernel
theorem d3_151 : decode prog_169_method_2_code 151 = .ok (.if_icmp .lt 9, 3) := by decide +kernel
theorem d3_154 : decode prog_169_method_2_code 154 = .ok (.iload_n 0, 1) := by decide +kernel
theorem d3_155 : decode prog_169_method_2_code 155 = .ok (.ldc 15, 2) := by decide +kernel
theorem d3_157 : decode prog_169_method_2_code 157 = .ok (.if_icmp .le 27, 3) := by decide +kernel
theorem d3_135 : decode prog_169_method_2_code 135 = .ok (.iload_n 0, 1) := by decide +kernel
theorem d3_136 : decode prog_169_method_2_code 136 = .ok (.sipush 12289, 3) := by decide +kernel
theorem d3_139 : decode prog_169_method_2_code 139 = .ok (.if_icmp .lt 9, 3) := by decide +kernel
theorem d3_142 : decode prog_169_method_2_code 142 = .ok (.iload_n 0, 1) := by decide +kernel
theorem d3_143 : decode prog_169_method_2_code 143 = .ok (.ldc 13, 2) := by decide +kernel
theorem d3_145 : decode prog_169_method_2_code 145 = .ok (.if_icmp .le 39, 3) := by decide +kernel
theorem d3_121 : decode prog_169_method_2_code 121 = .ok (.iload_n 0, 1) := by decide +kernel
theorem d3_122 : decode prog_169_method_2_code 122 = .ok (.sipush 11264, 3) := by decide +kernel
theorem d3_125 : decode prog_169_method_2_code 125 = .ok (.if_icmp .lt 10, 3) := by decide +kernel
theorem d3_128 : decode prog_169_method_2_code 128 = .ok (.iload_n 0, 1) := by decide +kernel
theorem d3_129 : decode prog_169_method_2_code 129 = .ok (.sipush 12271, 3) := by decide +kernel
theorem d3_132 : decode prog_169_method_2_code 132 = .ok (.if_icmp .le 52, 3) := by decide +kernel
theorem d3_107 : decode prog_169_method_2_code 107 = .ok (.iload_n 0, 1) := by decide +kernel
theorem d3_108 : decode prog_169_method_2_code 108 = .ok (.sipush 8304, 3) := by decide +kernel
theorem d3_111 : decode prog_169_method_2_code 111 = .ok (.if_icmp .lt 10, 3) := by decide +kernel
theorem d3_114 : decode prog_169_method_2_code 114 = .ok (.iload_n 0, 1) := by decide +kernel
theorem d3_115 : decode prog_169_method_2_code 115 = .ok (.sipush 8591, 3) := by decide +kernel
theorem d3_118 : decode prog_169_method_2_code 118 = .ok (.if_icmp .le 66, 3) := by decide +kernel
theorem d3_93 : decode prog_169_method_2_code 93 = .ok (.iload_n 0, 1) := by decide +kernel
theorem d3_94 : decode prog_169_method_2_code 94 = .ok (.sipush 8204, 3) := by decide +kernel
theorem d3_97 : decode prog_169_method_2_code 97 = .ok (.if_icmp .lt 10, 3) := by decide +kernel
theorem d3_100 : decode prog_169_method_2_code 100 = .ok (.iload_n 0, 1) := by decide +kernel
theorem d3_101 : decode prog_169_method_2_code 101 = .ok (.sipush 8205, 3) := by decide +kernel
theorem d3_104 : decode prog_169_method_2_code 104 = .ok (.if_icmp .le 80, 3) := by decide +kernel
theorem d3_79 : decode prog_169_method_2_code 79 = .ok (.iload_n 0, 1) := by decide +kernel
theorem d3_80 : decode prog_169_method_2_code 80 = .ok (.sipush 895, 3) := by decide +kernel
theorem d3_83 : decode prog_169_method_2_code 83 = .ok (.if_icmp .lt 10, 3) := by decide +kernel
theorem d3_86 : decode prog_169_method_2_code 86 = .ok (.iload_n 0, 1) := by decide +kernel
theorem d3_87 : decode prog_169_method_2_code 87 = .ok (.sipush 8191, 3) := by decide +kernel
theorem d3_90 : decode prog_169_method_2_code 90 = .ok (.if_icmp .le 94, 3) := by decide +kernel
theorem d3_65 : decode prog_169_method_2_code 65 = .ok (.iload_n 0, 1) := by decide +kernel
theorem d3_66 : decode prog_169_method_2_code 66 = .ok (.sipush 880, 3) := by decide +kernel
theorem d3_69 : decode prog_169_method_2_code 69 = .ok (.if_icmp .lt 10, 3) := by decide +kernel
theorem d3_72 : decode prog_169_method_2_code 72 = .ok (.iload_n 0, 1) := by decide +kernel
theorem d3_73 : decode prog_169_method_2_code 73 = .ok (.sipush 893, 3) := by decide +kernel
theorem d3_76 : decode prog_169_method_2_code 76 = .ok (.if_icmp .le 108, 3) := by decide +kernel
theorem d3_51 : decode prog_169_method_2_code 51 = .ok (.iload_n 0, 1) := by decide +kernel
theorem d3_52 : decode prog_169_method_2_code 52 = .ok (.sipush 248, 3) := by decide +kernel
theorem d3_55 : decode prog_169_method_2_code 55 = .ok (.if_icmp .lt 10, 3) := by decide +kernel
theorem d3_58 : decode prog_169_method_2_code 58 = .ok (.iload_n 0, 1) := by decide +kernel
theorem d3_59 : decode prog_169_method_2_code 59 = .ok (.sipush 767, 3) := by decide +kernel
theorem d3_62 : decode prog_169_method_2_code 62 = .ok (.if_icmp .le 122, 3) := by decide +kernel
theorem d3_37 : decode prog_169_method_2_code 37 = .ok (.iload_n 0, 1) := by decide +kernel
theorem d3_38 : decode prog_169_method_2_code 38 = .ok (.sipush 216, 3) := by decide +kernel
theorem d3_41 : decode prog_169_method_2_code 41 = .ok (.if_icmp .lt 10, 3) := by decide +kernel
theorem d3_44 : decode prog_169_method_2_code 44 = .ok (.iload_n 0, 1) := by decide +kernel
theorem d3_45 : decode prog_169_method_2_code 45 = .ok (.sipush 246, 3) := by decide +kernel
theorem d3_48 : decode prog_169_method_2_code 48 = .ok (.if_icmp .le 136, 3) := by decide +kernel
theorem d3_23 : decode prog_169_method_2_code 23 = .ok (.iload_n 0, 1) := by decide +kernel
theorem d3_24 : decode prog_169_method_2_code 24 = .ok (.sipush 192, 3) := by decide +kernel
theorem d3_27 : decode prog_169_method_2_code 27 = .ok (.if_icmp .lt 10, 3) := by decide +kernel
theorem d3_30 : decode prog_169_method_2_code 30 = .ok (.iload_n 0, 1) := by decide +kernel
theorem d3_31 : decode prog_169_method_2_code 31 = .ok (.sipush 214, 3) := by decide +kernel
theorem d3_34 : decode prog_169_method_2_code 34 = .ok (.if_icmp .le 150, 3) := by decide +kernel
theorem d3_21 : decode prog_169_method_2_code 21 = .ok (.iconst 0, 1) := by decide +kernel
theorem d3_22 : decode prog_169_method_2_code 22 = .ok (.ireturn, 1) := by decide +kernel
theorem d3_0 : decode prog_169_method_2_code 0 = .ok (.iload_n 0, 1) := by decide +kernel
theorem d3_1 : decode prog_169_method_2_code 1 = .ok (.sipush 128, 3) := by decide +kernel
theorem d3_4 : decode prog_169_method_2_code 4 = .ok (.if_icmp .ge 19, 3) := by decide +kernel
theorem d3_7 : decode prog_169_method_2_code 7 = .ok (.getstatic 7, 3) := by decide +kernel
theorem d3_10 : decode prog_169_method_2_code 10 = .ok (.iload_n 0, 1) := by decide +kernel
theorem d3_11 : decode prog_169_method_2_code 11 = .ok (.baload, 1) := by decide +kernel
theorem d3_12 : decode prog_169_method_2_code 12 = .ok (.iconst 1, 1) := by decide +kernel
theorem d3_13 : decode prog_169_method_2_code 13 = .ok (.iand, 1) := by decide +kernel
theorem d3_14 : decode prog_169_method_2_code 14 = .ok (.ifCond .eq 7, 3) := by decide +kernel
theorem d3_17 : decode prog_169_method_2_code 17 = .ok (.iconst 1, 1) := by decide +kernel
theorem d3_18 : decode prog_169_method_2_code 18 = .ok (.goto 4, 3) := by decide +kernel
set_option maxRecDepth 65536 in
set_option maxHeartbeats 40000000 in
theorem rm3 (l : Launch) (Z : State) (a0 : Array Value) (hw : ∀ d ∈ tables_1, d.before a0 Z = true) (q1 : Int32) (b1 : Addr) (r : Int32) (h0 : Heap) (S_ASCII : Sta Z h0 "com/example/cartulary/cartulary/XmlNames" "ASCII" "[B" (.ref b1)) (A_b1 : OAr Z h0 b1 .byte 128 (fun j => .int (own_tab j))) (h0c : ¬ q1 < 0) (h128 : q1 < 128 → q1.toNatClampNeg < 128) (hr : r = nb3_0 q1) :
    OPure l Z (⟨"com/example/cartulary/cartulary/XmlNames", "isNameStart", "(I)Z"⟩ : MethodName) prog_169_method_2_code 1 (some .boolean) [] ({ frames := 0, cells := 0, slots := 0, locals := 0 } : Room) #[(.int q1)] h0 (some (.int r)) := by
  refine own_body (plainFor_of_name pn_com_example_cartulary_cartulary_XmlNames) (fun m => ef_3_I m q1) ?_
  intro p e s m below meth c T0 hx hby hml hown hnm hret hlk hZ X0 e0
  have hown : s.vm.findClass "com/example/cartulary/cartulary/XmlNames" = some m.cls := hown
  have hml : c.maxLocals = 1 := hml
  show OGo p e below s _ _ (T0.setTop (mkF m 0 #[.val (.int q1)] []))
  have B188 : r = nb3_188 q1 → OGo p e below s ({ frames := 0, cells := 0, slots := 0, locals := 0 } : Room) (fun v' h' L => v' = some (.int r) ∧ L = [] ∧ h' = h0) (T0.setTop (mkF m 188 #[.val (.int q1)] [])) := by
    intro hB
    show OGo p e below s ({ frames := 0, cells := 0, slots := 0, locals := 0 } : Room) (fun v' h' L => v' = some (.int r) ∧ L = [] ∧ h' = h0) (T0.setTop (mkF m 188 #[.val (.int q1)] []))
    refine own_st (fun t k => XS.iconst X0.here hx rfl (hb hby d3_188) k) ?_
    show OGo p e below s ({ frames := 0, cells := 0, slots := 0, locals := 0 } : Room) (fun v' h' L => v' = some (.int r) ∧ L = [] ∧ h' = h0) (T0.setTop (mkF m 189 #[.val (.int q1)] [(.int (0 : Int32))]))
    exact own_retN X0 hx hlk (t := .boolean) hret (by simp) (hb hby d3_189) (by decide) (by decide) (⟨by rw [own_b0, hB]; simp [nb3_188], rfl, e0⟩)
  have B184 : r = nb3_184 q1 → OGo p e below s ({ frames := 0, cells := 0, slots := 0, locals := 0 } : Room) (fun v' h' L => v' = some (.int r) ∧ L = [] ∧ h' = h0) (T0.setTop (mkF m 184 #[.val (.int q1)] [])) := by
    intro hB
    show OGo p e below s ({ frames := 0, cells := 0, slots := 0, locals := 0 } : Room) (fun v' h' L => v' = some (.int r) ∧ L = [] ∧ h' = h0) (T0.setTop (mkF m 184 #[.val (.int q1)] []))
    refine own_st (fun t k => XS.iconst X0.here hx rfl (hb hby d3_184) k) ?_
    show OGo p e below s ({ frames := 0, cells := 0, slots := 0, locals := 0 } : Room) (fun v' h' L => v' = some (.int r) ∧ L = [] ∧ h' = h0) (T0.setTop (mkF m 185 #[.val (.int q1)] [(.int (1 : Int32))]))
    refine own_st (fun t k => XS.goto X0.here hx rfl (pc0 := 185) (pc' := 189) rfl (hb hby d3_185) (by decide) (by decide) k) ?_
    show OGo p e below s ({ frames := 0, cells := 0, slots := 0, locals := 0 } : Room) (fun v' h' L => v' = some (.int r) ∧ L = [] ∧ h' = h0) (T0.setTop (mkF m 189 #[.val (.int q1)] [(.int (1 : Int32))]))
    exact own_retN X0 hx hlk (t := .boolean) hret (by simp) (hb hby d3_189) (by decide) (by decide) (⟨by rw [own_b1, hB]; simp [nb3_184], rfl, e0⟩)
  have B172 : r = nb3_172 q1 → OGo p e below s ({ frames := 0, cells := 0, slots := 0, locals := 0 } : Room) (fun v' h' L => v' = some (.int r) ∧ L = [] ∧ h' = h0) (T0.setTop (mkF m 172 #[.val (.int q1)] [])) := by
    intro hB
    show OGo p e below s ({ frames := 0, cells := 0, slots := 0, locals := 0 } : Room) (fun v' h' L => v' = some (.int r) ∧ L = [] ∧ h' = h0) (T0.setTop (mkF m 172 #[.val (.int q1)] []))
    refine own_st (fun t k => XS.iloadN X0.here hx rfl (hb hby d3_172) rfl k) ?_
    show OGo p e below s ({ frames := 0, cells := 0, slots := 0, locals := 0 } : Room) (fun v' h' L => v' = some (.int r) ∧ L = [] ∧ h' = h0) (T0.setTop (mkF m 173 #[.val (.int q1)] [(.int q1)]))
    refine own_st (X0.ldcInt hx hown (mvT hZ (hw _ (List.mem_of_getElem? (i := 30) rfl))) (g := (mkF m 173 #[.val (.int q1)] [(.int q1)])) rfl (hb hby d3_173)) ?_
    show OGo p e below s ({ frames := 0, cells := 0, slots := 0, locals := 0 } : Room) (fun v' h' L => v' = some (.int r) ∧ L = [] ∧ h' = h0) (T0.setTop (mkF m 175 #[.val (.int q1)] [(.int (65536 : Int32)), (.int q1)]))
    by_cases hc175 : q1 < (65536 : Int32)
    · refine own_st (fun t k => XS.icmpYes X0.here hx rfl (pc0 := 175) (pc' := 188) rfl (hb hby d3_175) rfl (tlt (hc175)).1 (by decide) (by decide) k) ?_
      show OGo p e below s ({ frames := 0, cells := 0, slots := 0, locals := 0 } : Room) (fun v' h' L => v' = some (.int r) ∧ L = [] ∧ h' = h0) (T0.setTop (mkF m 188 #[.val (.int q1)] []))
      exact B188 (hB.trans (by simp [nb3_172, hc175]))
    · refine own_st (fun t k => XS.icmpNo X0.here hx rfl (hb hby d3_175) rfl (flt (hc175)).1 k) ?_
      show OGo p e below s ({ frames := 0, cells := 0, slots := 0, locals := 0 } : Room) (fun v' h' L => v' = some (.int r) ∧ L = [] ∧ h' = h0) (T0.setTop (mkF m 178 #[.val (.int q1)] []))
      refine own_st (fun t k => XS.iloadN X0.here hx rfl (hb hby d3_178) rfl k) ?_
      show OGo p e below s ({ frames := 0, cells := 0, slots := 0, locals := 0 } : Room) (fun v' h' L => v' = some (.int r) ∧ L = [] ∧ h' = h0) (T0.setTop (mkF m 179 #[.val (.int q1)] [(.int q1)]))
      refine own_st (X0.ldcInt hx hown (mvT hZ (hw _ (List.mem_of_getElem? (i := 34) rfl))) (g := (mkF m 179 #[.val (.int q1)] [(.int q1)])) rfl (hb hby d3_179)) ?_
      show OGo p e below s ({ frames := 0, cells := 0, slots := 0, locals := 0 } : Room) (fun v' h' L => v' = some (.int r) ∧ L = [] ∧ h' = h0) (T0.setTop (mkF m 181 #[.val (.int q1)] [(.int (983039 : Int32)), (.int q1)]))
      by_cases hc181 : (983039 : Int32) < q1
      · refine own_st (fun t k => XS.icmpYes X0.here hx rfl (pc0 := 181) (pc' := 188) rfl (hb hby d3_181) rfl (tlt (hc181)).2.2.1 (by decide) (by decide) k) ?_
        show OGo p e below s ({ frames := 0, cells := 0, slots := 0, locals := 0 } : Room) (fun v' h' L => v' = some (.int r) ∧ L = [] ∧ h' = h0) (T0.setTop (mkF m 188 #[.val (.int q1)] []))
        exact B188 (hB.trans (by simp [nb3_172, hc175, hc181]))
      · refine own_st (fun t k => XS.icmpNo X0.here hx rfl (hb hby d3_181) rfl (flt (hc181)).2.2.1 k) ?_
        show OGo p e below s ({ frames := 0, cells := 0, slots := 0, locals := 0 } : Room) (fun v' h' L => v' = some (.int r) ∧ L = [] ∧ h' = h0) (T0.setTop (mkF m 184 #[.val (.int q1)] []))
        exact B184 (hB.trans (by simp [nb3_172, hc175, hc181]))
  have B160 : r = nb3_160 q1 → OGo p e below s ({ frames := 0, cells := 0, slots := 0, locals := 0 } : Room) (fun v' h' L => v' = some (.int r) ∧ L = [] ∧ h' = h0) (T0.setTop (mkF m 160 #[.val (.int q1)] [])) := by
    intro hB
    show OGo p e below s ({ frames := 0, cells := 0, slots := 0, locals := 0 } : Room) (fun v' h' L => v' = some (.int r) ∧ L = [] ∧ h' = h0) (T0.setTop (mkF m 160 #[.val (.int q1)] []))
    refine own_st (fun t k => XS.iloadN X0.here hx rfl (hb hby d3_160) rfl k) ?_
    show OGo p e below s ({ frames := 0, cells := 0, slots := 0, locals := 0 } : Room) (fun v' h' L => v' = some (.int r) ∧ L = [] ∧ h' = h0) (T0.setTop (mkF m 161 #[.val (.int q1)] [(.int q1)]))
    refine own_st (X0.ldcInt hx hown (mvT hZ (hw _ (List.mem_of_getElem? (i := 29) rfl))) (g := (mkF m 161 #[.val (.int q1)] [(.int q1)])) rfl (hb hby d3_161)) ?_
    show OGo p e below s ({ frames := 0, cells := 0, slots := 0, locals := 0 } : Room) (fun v' h' L => v' = some (.int r) ∧ L = [] ∧ h' = h0) (T0.setTop (mkF m 163 #[.val (.int q1)] [(.int (65008 : Int32)), (.int q1)]))
    by_cases hc163 : q1 < (65008 : Int32)
    · refine own_st (fun t k => XS.icmpYes X0.here hx rfl (pc0 := 163) (pc' := 172) rfl (hb hby d3_163) rfl (tlt (hc163)).1 (by decide) (by decide) k) ?_
      show OGo p e below s ({ frames := 0, cells := 0, slots := 0, locals := 0 } : Room) (fun v' h' L => v' = some (.int r) ∧ L = [] ∧ h' = h0) (T0.setTop (mkF m 172 #[.val (.int q1)] []))
      exact B172 (hB.trans (by simp [nb3_160, hc163]))
    · refine own_st (fun t k => XS.icmpNo X0.here hx rfl (hb hby d3_163) rfl (flt (hc163)).1 k) ?_
      show OGo p e below s ({ frames := 0, cells := 0, slots := 0, locals := 0 } : Room) (fun v' h' L => v' = some (.int r) ∧ L = [] ∧ h' = h0) (T0.setTop (mkF m 166 #[.val (.int q1)] []))
      refine own_st (fun t k => XS.iloadN X0.here hx rfl (hb hby d3_166) rfl k) ?_
      show OGo p e below s ({ frames := 0, cells := 0, slots := 0, locals := 0 } : Room) (fun v' h' L => v' = some (.int r) ∧ L = [] ∧ h' = h0) (T0.setTop (mkF m 167 #[.val (.int q1)] [(.int q1)]))
      refine own_st (X0.ldcInt hx hown (mvT hZ (hw _ (List.mem_of_getElem? (i := 33) rfl))) (g := (mkF m 167 #[.val (.int q1)] [(.int q1)])) rfl (hb hby d3_167)) ?_
      show OGo p e below s ({ frames := 0, cells := 0, slots := 0, locals := 0 } : Room) (fun v' h' L => v' = some (.int r) ∧ L = [] ∧ h' = h0) (T0.setTop (mkF m 169 #[.val (.int q1)] [(.int (65533 : Int32)), (.int q1)]))
      by_cases hc169 : (65533 : Int32) < q1
      · refine own_st (fun t k => XS.icmpNo X0.here hx rfl (hb hby d3_169) rfl (tlt (hc169)).2.2.2 k) ?_
        show OGo p e below s ({ frames := 0, cells := 0, slots := 0, locals := 0 } : Room) (fun v' h' L => v' = some (.int r) ∧ L = [] ∧ h' = h0) (T0.setTop (mkF m 172 #[.val (.int q1)] []))
        exact B172 (hB.trans (by simp [nb3_160, hc163, hc169]))
      · refine own_st (fun t k => XS.icmpYes X0.here hx rfl (pc0 := 169) (pc' := 184) rfl (hb hby d3_169) rfl (flt (hc169)).2.2.2 (by decide) (by decide) k) ?_
        show OGo p e below s ({ frames := 0, cells := 0, slots := 0, locals := 0 } : Room) (fun v' h' L => v' = some (.int r) ∧ L = [] ∧ h' = h0) (T0.setTop (mkF m 184 #[.val (.int q1)] []))
        exact B184 (hB.trans (by simp [nb3_160, hc163, hc169]))
  have B148 : r = nb3_148 q1 → OGo p e below s ({ frames := 0, cells := 0, slots := 0, locals := 0 } : Room) (fun v' h' L => v' = some (.int r) ∧ L = [] ∧ h' = h0) (T0.setTop (mkF m 148 #[.val (.int q1)] [])) := by
    intro hB
    show OGo p e below s ({ frames := 0, cells := 0, slots := 0, locals := 0 } : Room) (fun v' h' L => v' = some (.int r) ∧ L = [] ∧ h' = h0) (T0.setTop (mkF m 148 #[.val (.int q1)] []))
    refine own_st (fun t k => XS.iloadN X0.here hx rfl (hb hby d3_148) rfl k) ?_
    show OGo p e below s ({ frames := 0, cells := 0, slots := 0, locals := 0 } : Room) (fun v' h' L => v' = some (.int r) ∧ L = [] ∧ h' = h0) (T0.setTop (mkF m 149 #[.val (.int q1)] [(.int q1)]))
    refine own_st (X0.ldcInt hx hown (mvT hZ (hw _ (List.mem_of_getElem? (i := 28) rfl))) (g := (mkF m 149 #[.val (.int q1)] [(.int q1)])) rfl (hb hby d3_149)) ?_
    show OGo p e below s ({ frames := 0, cells := 0, slots := 0, locals := 0 } : Room) (fun v' h' L => v' = some (.int r) ∧ L = [] ∧ h' = h0) (T0.setTop (mkF m 151 #[.val (.int q1)] [(.int (63744 : Int32)), (.int q1)]))
    by_cases hc151 : q1 < (63744 : Int32)
    · refine own_st (fun t k => XS.icmpYes X0.here hx rfl (pc0 := 151) (pc' := 160) rfl (hb hby d3_151) rfl (tlt (hc151)).1 (by decide) (by decide) k) ?_
      show OGo p e below s ({ frames := 0, cells := 0, slots := 0, locals := 0 } : Room) (fun v' h' L => v' = some (.int r) ∧ L = [] ∧ h' = h0) (T0.setTop (mkF m 160 #[.val (.int q1)] []))
      exact B160 (hB.trans (by simp [nb3_148, hc151]))
    · refine own_st (fun t k => XS.icmpNo X0.here hx rfl (hb hby d3_151) rfl (flt (hc151)).1 k) ?_
      show OGo p e below s ({ frames := 0, cells := 0, slots := 0, locals := 0 } : Room) (fun v' h' L => v' = some (.int r) ∧ L = [] ∧ h' = h0) (T0.setTop (mkF m 154 #[.val (.int q1)] []))
      refine own_st (fun t k => XS.iloadN X0.here hx rfl (hb hby d3_154) rfl k) ?_
      show OGo p e below s ({ frames := 0, cells := 0, slots := 0, locals := 0 } : Room) (fun v' h' L => v' = some (.int r) ∧ L = [] ∧ h' = h0) (T0.setTop (mkF m 155 #[.val (.int q1)] [(.int q1)]))
      refine own_st (X0.ldcInt hx hown (mvT hZ (hw _ (List.mem_of_getElem? (i := 32) rfl))) (g := (mkF m 155 #[.val (.int q1)] [(.int q1)])) rfl (hb hby d3_155)) ?_
      show OGo p e below s ({ frames := 0, cells := 0, slots := 0, locals := 0 } : Room) (fun v' h' L => v' = some (.int r) ∧ L = [] ∧ h' = h0) (T0.setTop (mkF m 157 #[.val (.int q1)] [(.int (64975 : Int32)), (.int q1)]))
      by_cases hc157 : (64975 : Int32) < q1
      · refine own_st (fun t k => XS.icmpNo X0.here hx rfl (hb hby d3_157) rfl (tlt (hc157)).2.2.2 k) ?_
        show OGo p e below s ({ frames := 0, cells := 0, slots := 0, locals := 0 } : Room) (fun v' h' L => v' = some (.int r) ∧ L = [] ∧ h' = h0) (T0.setTop (mkF m 160 #[.val (.int q1)] []))
        exact B160 (hB.trans (by simp [nb3_148, hc151, hc157]))
      · refine own_st (fun t k => XS.icmpYes X0.here hx rfl (pc0 := 157) (pc' := 184) rfl (hb hby d3_157) rfl (flt (hc157)).2.2.2 (by decide) (by decide) k) ?_
        show OGo p e below s ({ frames := 0, cells := 0, slots := 0, locals := 0 } : Room) (fun v' h' L => v' = some (.int r) ∧ L = [] ∧ h' = h0) (T0.setTop (mkF m 184 #[.val (.int q1)] []))
        exact B184 (hB.trans (by simp [nb3_148, hc151, hc157]))
  have B135 : r = nb3_135 q1 → OGo p e below s ({ frames := 0, cells := 0, slots := 0, locals := 0 } : Room) (fun v' h' L => v' = some (.int r) ∧ L = [] ∧ h' = h0) (T0.setTop (mkF m 135 #[.val (.int q1)] [])) := by
    intro hB
    show OGo p e below s ({ frames := 0, cells := 0, slots := 0, locals := 0 } : Room) (fun v' h' L => v' = some (.int r) ∧ L = [] ∧ h' = h0) (T0.setTop (mkF m 135 #[.val (.int q1)] []))
    refine own_st (fun t k => XS.iloadN X0.here hx rfl (hb hby d3_135) rfl k) ?_
    show OGo p e below s ({ frames := 0, cells := 0, slots := 0, locals := 0 } : Room) (fun v' h' L => v' = some (.int r) ∧ L = [] ∧ h' = h0) (T0.setTop (mkF m 136 #[.val (.int q1)] [(.int q1)]))
    refine own_st (fun t k => XS.sipush X0.here hx rfl (hb hby d3_136) k) ?_
    show OGo p e below s ({ frames := 0, cells := 0, slots := 0, locals := 0 } : Room) (fun v' h' L => v' = some (.int r) ∧ L = [] ∧ h' = h0) (T0.setTop (mkF m 139 #[.val (.int q1)] [(.int (12289 : Int32)), (.int q1)]))
    by_cases hc139 : q1 < (12289 : Int32)
    · refine own_st (fun t k => XS.icmpYes X0.here hx rfl (pc0 := 139) (pc' := 148) rfl (hb hby d3_139) rfl (tlt (hc139)).1 (by decide) (by decide) k) ?_
      show OGo p e below s ({ frames := 0, cells := 0, slots := 0, locals := 0 } : Room) (fun v' h' L => v' = some (.int r) ∧ L = [] ∧ h' = h0) (T0.setTop (mkF m 148 #[.val (.int q1)] []))
      exact B148 (hB.trans (by simp [nb3_135, hc139]))
    · refine own_st (fun t k => XS.icmpNo X0.here hx rfl (hb hby d3_139) rfl (flt (hc139)).1 k) ?_
      show OGo p e below s ({ frames := 0, cells := 0, slots := 0, locals := 0 } : Room) (fun v' h' L => v' = some (.int r) ∧ L = [] ∧ h' = h0) (T0.setTop (mkF m 142 #[.val (.int q1)] []))
      refine own_st (fun t k => XS.iloadN X0.here hx rfl (hb hby d3_142) rfl k) ?_
      show OGo p e below s ({ frames := 0, cells := 0, slots := 0, locals := 0 } : Room) (fun v' h' L => v' = some (.int r) ∧ L = [] ∧ h' = h0) (T0.setTop (mkF m 143 #[.val (.int q1)] [(.int q1)]))
      refine own_st (X0.ldcInt hx hown (mvT hZ (hw _ (List.mem_of_getElem? (i := 31) rfl))) (g := (mkF m 143 #[.val (.int q1)] [(.int q1)])) rfl (hb hby d3_143)) ?_
      show OGo p e below s ({ frames := 0, cells := 0, slots := 0, locals := 0 } : Room) (fun v' h' L => v' = some (.int r) ∧ L = [] ∧ h' = h0) (T0.setTop (mkF m 145 #[.val (.int q1)] [(.int (55295 : Int32)), (.int q1)]))
      by_cases hc145 : (55295 : Int32) < q1
      · refine own_st (fun t k => XS.icmpNo X0.here hx rfl (hb hby d3_145) rfl (tlt (hc145)).2.2.2 k) ?_
        show OGo p e below s ({ frames := 0, cells := 0, slots := 0, locals := 0 } : Room) (fun v' h' L => v' = some (.int r) ∧ L = [] ∧ h' = h0) (T0.setTop (mkF m 148 #[.val (.int q1)] []))
        exact B148 (hB.trans (by simp [nb3_135, hc139, hc145]))
      · refine own_st (fun t k => XS.icmpYes X0.here hx rfl (pc0 := 145) (pc' := 184) rfl (hb hby d3_145) rfl (flt (hc145)).2.2.2 (by decide) (by decide) k) ?_
        show OGo p e below s ({ frames := 0, cells := 0, slots := 0, locals := 0 } : Room) (fun v' h' L => v' = some (.int r) ∧ L = [] ∧ h' = h0) (T0.setTop (mkF m 184 #[.val (.int q1)] []))
        exact B184 (hB.trans (by simp [nb3_135, hc139, hc145]))
  have B121 : r = nb3_121 q1 → OGo p e below s ({ frames := 0, cells := 0, slots := 0, locals := 0 } : Room) (fun v' h' L => v' = some (.int r) ∧ L = [] ∧ h' = h0) (T0.setTop (mkF m 121 #[.val (.int q1)] [])) := by
    intro hB
    show OGo p e below s ({ frames := 0, cells := 0, slots := 0, locals := 0 } : Room) (fun v' h' L => v' = some (.int r) ∧ L = [] ∧ h' = h0) (T0.setTop (mkF m 121 #[.val (.int q1)] []))
    refine own_st (fun t k => XS.iloadN X0.here hx rfl (hb hby d3_121) rfl k) ?_
    show OGo p e below s ({ frames := 0, cells := 0, slots := 0, locals := 0 } : Room) (fun v' h' L => v' = some (.int r) ∧ L = [] ∧ h' = h0) (T0.setTop (mkF m 122 #[.val (.int q1)] [(.int q1)]))
    refine own_st (fun t k => XS.sipush X0.here hx rfl (hb hby d3_122) k) ?_
    show OGo p e below s ({ frames := 0, cells := 0, slots := 0, locals := 0 } : Room) (fun v' h' L => v' = some (.int r) ∧ L = [] ∧ h' = h0) (T0.setTop (mkF m 125 #[.val (.int q1)] [(.int (11264 : Int32)), (.int q1)]))
    by_cases hc125 : q1 < (11264 : Int32)
    · refine own_st (fun t k => XS.icmpYes X0.here hx rfl (pc0 := 125) (pc' := 135) rfl (hb hby d3_125) rfl (tlt (hc125)).1 (by decide) (by decide) k) ?_
      show OGo p e below s ({ frames := 0, cells := 0, slots := 0, locals := 0 } : Room) (fun v' h' L => v' = some (.int r) ∧ L = [] ∧ h' = h0) (T0.setTop (mkF m 135 #[.val (.int q1)] []))
      exact B135 (hB.trans (by simp [nb3_121, hc125]))
    · refine own_st (fun t k => XS.icmpNo X0.here hx rfl (hb hby d3_125) rfl (flt (hc125)).1 k) ?_
      show OGo p e below s ({ frames := 0, cells := 0, slots := 0, locals := 0 } : Room) (fun v' h' L => v' = some (.int r) ∧ L = [] ∧ h' = h0) (T0.setTop (mkF m 128 #[.val (.int q1)] []))
      refine own_st (fun t k => XS.iloadN X0.here hx rfl (hb hby d3_128) rfl k) ?_
      show OGo p e below s ({ frames := 0, cells := 0, slots := 0, locals := 0 } : Room) (fun v' h' L => v' = some (.int r) ∧ L = [] ∧ h' = h0) (T0.setTop (mkF m 129 #[.val (.int q1)] [(.int q1)]))
      refine own_st (fun t k => XS.sipush X0.here hx rfl (hb hby d3_129) k) ?_
      show OGo p e below s ({ frames := 0, cells := 0, slots := 0, locals := 0 } : Room) (fun v' h' L => v' = some (.int r) ∧ L = [] ∧ h' = h0) (T0.setTop (mkF m 132 #[.val (.int q1)] [(.int (12271 : Int32)), (.int q1)]))
      by_cases hc132 : (12271 : Int32) < q1
      · refine own_st (fun t k => XS.icmpNo X0.here hx rfl (hb hby d3_132) rfl (tlt (hc132)).2.2.2 k) ?_
        show OGo p e below s ({ frames := 0, cells := 0, slots := 0, locals := 0 } : Room) (fun v' h' L => v' = some (.int r) ∧ L = [] ∧ h' = h0) (T0.setTop (mkF m 135 #[.val (.int q1)] []))
        exact B135 (hB.trans (by simp [nb3_121, hc125, hc132]))
      · refine own_st (fun t k => XS.icmpYes X0.here hx rfl (pc0 := 132) (pc' := 184) rfl (hb hby d3_132) rfl (flt (hc132)).2.2.2 (by decide) (by decide) k) ?_
        show OGo p e below s ({ frames := 0, cells := 0, slots := 0, locals := 0 } : Room) (fun v' h' L => v' = some (.int r) ∧ L = [] ∧ h' = h0) (T0.setTop (mkF m 184 #[.val (.int q1)] []))
        exact B184 (hB.trans (by simp [nb3_121, hc125, hc132]))
  have B107 : r = nb3_107 q1 → OGo p e below s ({ frames := 0, cells := 0, slots := 0, locals := 0 } : Room) (fun v' h' L => v' = some (.int r) ∧ L = [] ∧ h' = h0) (T0.setTop (mkF m 107 #[.val (.int q1)] [])) := by
    intro hB
    show OGo p e below s ({ frames := 0, cells := 0, slots := 0, locals := 0 } : Room) (fun v' h' L => v' = some (.int r) ∧ L = [] ∧ h' = h0) (T0.setTop (mkF m 107 #[.val (.int q1)] []))
    refine own_st (fun t k => XS.iloadN X0.here hx rfl (hb hby d3_107) rfl k) ?_
    show OGo p e below s ({ frames := 0, cells := 0, slots := 0, locals := 0 } : Room) (fun v' h' L => v' = some (.int r) ∧ L = [] ∧ h' = h0) (T0.setTop (mkF m 108 #[.val (.int q1)] [(.int q1)]))
    refine own_st (fun t k => XS.sipush X0.here hx rfl (hb hby d3_108) k) ?_
    show OGo p e below s ({ frames := 0, cells := 0, slots := 0, locals := 0 } : Room) (fun v' h' L => v' = some (.int r) ∧ L = [] ∧ h' = h0) (T0.setTop (mkF m 111 #[.val (.int q1)] [(.int (8304 : Int32)), (.int q1)]))
    by_cases hc111 : q1 < (8304 : Int32)
    · refine own_st (fun t k => XS.icmpYes X0.here hx rfl (pc0 := 111) (pc' := 121) rfl (hb hby d3_111) rfl (tlt (hc111)).1 (by decide) (by decide) k) ?_
      show OGo p e below s ({ frames := 0, cells := 0, slots := 0, locals := 0 } : Room) (fun v' h' L => v' = some (.int r) ∧ L = [] ∧ h' = h0) (T0.setTop (mkF m 121 #[.val (.int q1)] []))
      exact B121 (hB.trans (by simp [nb3_107, hc111]))
    · refine own_st (fun t k => XS.icmpNo X0.here hx rfl (hb hby d3_111) rfl (flt (hc111)).1 k) ?_
      show OGo p e below s ({ frames := 0, cells := 0, slots := 0, locals := 0 } : Room) (fun v' h' L => v' = some (.int r) ∧ L = [] ∧ h' = h0) (T0.setTop (mkF m 114 #[.val (.int q1)] []))
      refine own_st (fun t k => XS.iloadN X0.here hx rfl (hb hby d3_114) rfl k) ?_
      show OGo p e below s ({ frames := 0, cells := 0, slots := 0, locals := 0 } : Room) (fun v' h' L => v' = some (.int r) ∧ L = [] ∧ h' = h0) (T0.setTop (mkF m 115 #[.val (.int q1)] [(.int q1)]))
      refine own_st (fun t k => XS.sipush X0.here hx rfl (hb hby d3_115) k) ?_
      show OGo p e below s ({ frames := 0, cells := 0, slots := 0, locals := 0 } : Room) (fun v' h' L => v' = some (.int r) ∧ L = [] ∧ h' = h0) (T0.setTop (mkF m 118 #[.val (.int q1)] [(.int (8591 : Int32)), (.int q1)]))
      by_cases hc118 : (8591 : Int32) < q1
      · refine own_st (fun t k => XS.icmpNo X0.here hx rfl (hb hby d3_118) rfl (tlt (hc118)).2.2.2 k) ?_
        show OGo p e below s ({ frames := 0, cells := 0, slots := 0, locals := 0 } : Room) (fun v' h' L => v' = some (.int r) ∧ L = [] ∧ h' = h0) (T0.setTop (mkF m 121 #[.val (.int q1)] []))
        exact B121 (hB.trans (by simp [nb3_107, hc111, hc118]))
      · refine own_st (fun t k => XS.icmpYes X0.here hx rfl (pc0 := 118) (pc' := 184) rfl (hb hby d3_118) rfl (flt (hc118)).2.2.2 (by decide) (by decide) k) ?_
        show OGo p e below s ({ frames := 0, cells := 0, slots := 0, locals := 0 } : Room) (fun v' h' L => v' = some (.int r) ∧ L = [] ∧ h' = h0) (T0.setTop (mkF m 184 #[.val (.int q1)] []))
        exact B184 (hB.trans (by simp [nb3_107, hc111, hc118]))
  have B93 : r = nb3_93 q1 → OGo p e below s ({ frames := 0, cells := 0, slots := 0, locals := 0 } : Room) (fun v' h' L => v' = some (.int r) ∧ L = [] ∧ h' = h0) (T0.setTop (mkF m 93 #[.val (.int q1)] [])) := by
    intro hB
    show OGo p e below s ({ frames := 0, cells := 0, slots := 0, locals := 0 } : Room) (fun v' h' L => v' = some (.int r) ∧ L = [] ∧ h' = h0) (T0.setTop (mkF m 93 #[.val (.int q1)] []))
    refine own_st (fun t k => XS.iloadN X0.here hx rfl (hb hby d3_93) rfl k) ?_
    show OGo p e below s ({ frames := 0, cells := 0, slots := 0, locals := 0 } : Room) (fun v' h' L => v' = some (.int r) ∧ L = [] ∧ h' = h0) (T0.setTop (mkF m 94 #[.val (.int q1)] [(.int q1)]))
    refine own_st (fun t k => XS.sipush X0.here hx rfl (hb hby d3_94) k) ?_
    show OGo p e below s ({ frames := 0, cells := 0, slots := 0, locals := 0 } : Room) (fun v' h' L => v' = some (.int r) ∧ L = [] ∧ h' = h0) (T0.setTop (mkF m 97 #[.val (.int q1)] [(.int (8204 : Int32)), (.int q1)]))
    by_cases hc97 : q1 < (8204 : Int32)
    · refine own_st (fun t k => XS.icmpYes X0.here hx rfl (pc0 := 97) (pc' := 107) rfl (hb hby d3_97) rfl (tlt (hc97)).1 (by decide) (by decide) k) ?_
      show OGo p e below s ({ frames := 0, cells := 0, slots := 0, locals := 0 } : Room) (fun v' h' L => v' = some (.int r) ∧ L = [] ∧ h' = h0) (T0.setTop (mkF m 107 #[.val (.int q1)] []))
      exact B107 (hB.trans (by simp [nb3_93, hc97]))
    · refine own_st (fun t k => XS.icmpNo X0.here hx rfl (hb hby d3_97) rfl (flt (hc97)).1 k) ?_
      show OGo p e below s ({ frames := 0, cells := 0, slots := 0, locals := 0 } : Room) (fun v' h' L => v' = some (.int r) ∧ L = [] ∧ h' = h0) (T0.setTop (mkF m 100 #[.val (.int q1)] []))
      refine own_st (fun t k => XS.iloadN X0.here hx rfl (hb hby d3_100) rfl k) ?_
      show OGo p e below s ({ frames := 0, cells := 0, slots := 0, locals := 0 } : Room) (fun v' h' L => v' = some (.int r) ∧ L = [] ∧ h' = h0) (T0.setTop (mkF m 101 #[.val (.int q1)] [(.int q1)]))
      refine own_st (fun t k => XS.sipush X0.here hx rfl (hb hby d3_101) k) ?_
      show OGo p e below s ({ frames := 0, cells := 0, slots := 0, locals := 0 } : Room) (fun v' h' L => v' = some (.int r) ∧ L = [] ∧ h' = h0) (T0.setTop (mkF m 104 #[.val (.int q1)] [(.int (8205 : Int32)), (.int q1)]))
      by_cases hc104 : (8205 : Int32) < q1
      · refine own_st (fun t k => XS.icmpNo X0.here hx rfl (hb hby d3_104) rfl (tlt (hc104)).2.2.2 k) ?_
        show OGo p e below s ({ frames := 0, cells := 0, slots := 0, locals := 0 } : Room) (fun v' h' L => v' = some (.int r) ∧ L = [] ∧ h' = h0) (T0.setTop (mkF m 107 #[.val (.int q1)] []))
        exact B107 (hB.trans (by simp [nb3_93, hc97, hc104]))
      · refine own_st (fun t k => XS.icmpYes X0.here hx rfl (pc0 := 104) (pc' := 184) rfl (hb hby d3_104) rfl (flt (hc104)).2.2.2 (by decide) (by decide) k) ?_
        show OGo p e below s ({ frames := 0, cells := 0, slots := 0, locals := 0 } : Room) (fun v' h' L => v' = some (.int r) ∧ L = [] ∧ h' = h0) (T0.setTop (mkF m 184 #[.val (.int q1)] []))
        exact B184 (hB.trans (by simp [nb3_93, hc97, hc104]))
  have B79 : r = nb3_79 q1 → OGo p e below s ({ frames := 0, cells := 0, slots := 0, locals := 0 } : Room) (fun v' h' L => v' = some (.int r) ∧ L = [] ∧ h' = h0) (T0.setTop (mkF m 79 #[.val (.int q1)] [])) := by
    intro hB
    show OGo p e below s ({ frames := 0, cells := 0, slots := 0, locals := 0 } : Room) (fun v' h' L => v' = some (.int r) ∧ L = [] ∧ h' = h0) (T0.setTop (mkF m 79 #[.val (.int q1)] []))
    refine own_st (fun t k => XS.iloadN X0.here hx rfl (hb hby d3_79) rfl k) ?_
    show OGo p e below s ({ frames := 0, cells := 0, slots := 0, locals := 0 } : Room) (fun v' h' L => v' = some (.int r) ∧ L = [] ∧ h' = h0) (T0.setTop (mkF m 80 #[.val (.int q1)] [(.int q1)]))
    refine own_st (fun t k => XS.sipush X0.here hx rfl (hb hby d3_80) k) ?_
    show OGo p e below s ({ frames := 0, cells := 0, slots := 0, locals := 0 } : Room) (fun v' h' L => v' = some (.int r) ∧ L = [] ∧ h' = h0) (T0.setTop (mkF m 83 #[.val (.int q1)] [(.int (895 : Int32)), (.int q1)]))
    by_cases hc83 : q1 < (895 : Int32)
    · refine own_st (fun t k => XS.icmpYes X0.here hx rfl (pc0 := 83) (pc' := 93) rfl (hb hby d3_83) rfl (tlt (hc83)).1 (by decide) (by decide) k) ?_
      show OGo p e below s ({ frames := 0, cells := 0, slots := 0, locals := 0 } : Room) (fun v' h' L => v' = some (.int r) ∧ L = [] ∧ h' = h0) (T0.setTop (mkF m 93 #[.val (.int q1)] []))
      exact B93 (hB.trans (by simp [nb3_79, hc83]))
    · refine own_st (fun t k => XS.icmpNo X0.here hx rfl (hb hby d3_83) rfl (flt (hc83)).1 k) ?_
      show OGo p e below s ({ frames := 0, cells := 0, slots := 0, locals := 0 } : Room) (fun v' h' L => v' = some (.int r) ∧ L = [] ∧ h' = h0) (T0.setTop (mkF m 86 #[.val (.int q1)] []))
      refine own_st (fun t k => XS.iloadN X0.here hx rfl (hb hby d3_86) rfl k) ?_
      show OGo p e below s ({ frames := 0, cells := 0, slots := 0, locals := 0 } : Room) (fun v' h' L => v' = some (.int r) ∧ L = [] ∧ h' = h0) (T0.setTop (mkF m 87 #[.val (.int q1)] [(.int q1)]))
      refine own_st (fun t k => XS.sipush X0.here hx rfl (hb hby d3_87) k) ?_
      show OGo p e below s ({ frames := 0, cells := 0, slots := 0, locals := 0 } : Room) (fun v' h' L => v' = some (.int r) ∧ L = [] ∧ h' = h0) (T0.setTop (mkF m 90 #[.val (.int q1)] [(.int (8191 : Int32)), (.int q1)]))
      by_cases hc90 : (8191 : Int32) < q1
      · refine own_st (fun t k => XS.icmpNo X0.here hx rfl (hb hby d3_90) rfl (tlt (hc90)).2.2.2 k) ?_
        show OGo p e below s ({ frames := 0, cells := 0, slots := 0, locals := 0 } : Room) (fun v' h' L => v' = some (.int r) ∧ L = [] ∧ h' = h0) (T0.setTop (mkF m 93 #[.val (.int q1)] []))
        exact B93 (hB.trans (by simp [nb3_79, hc83, hc90]))
      · refine own_st (fun t k => XS.icmpYes X0.here hx rfl (pc0 := 90) (pc' := 184) rfl (hb hby d3_90) rfl (flt (hc90)).2.2.2 (by decide) (by decide) k) ?_
        show OGo p e below s ({ frames := 0, cells := 0, slots := 0, locals := 0 } : Room) (fun v' h' L => v' = some (.int r) ∧ L = [] ∧ h' = h0) (T0.setTop (mkF m 184 #[.val (.int q1)] []))
        exact B184 (hB.trans (by simp [nb3_79, hc83, hc90]))
  have B65 : r = nb3_65 q1 → OGo p e below s ({ frames := 0, cells := 0, slots := 0, locals := 0 } : Room) (fun v' h' L => v' = some (.int r) ∧ L = [] ∧ h' = h0) (T0.setTop (mkF m 65 #[.val (.int q1)] [])) := by
    intro hB
    show OGo p e below s ({ frames := 0, cells := 0, slots := 0, locals := 0 } : Room) (fun v' h' L => v' = some (.int r) ∧ L = [] ∧ h' = h0) (T0.setTop (mkF m 65 #[.val (.int q1)] []))
    refine own_st (fun t k => XS.iloadN X0.here hx rfl (hb hby d3_65) rfl k) ?_
    show OGo p e below s ({ frames := 0, cells := 0, slots := 0, locals := 0 } : Room) (fun v' h' L => v' = some (.int r) ∧ L = [] ∧ h' = h0) (T0.setTop (mkF m 66 #[.val (.int q1)] [(.int q1)]))
    refine own_st (fun t k => XS.sipush X0.here hx rfl (hb hby d3_66) k) ?_
    show OGo p e below s ({ frames := 0, cells := 0, slots := 0, locals := 0 } : Room) (fun v' h' L => v' = some (.int r) ∧ L = [] ∧ h' = h0) (T0.setTop (mkF m 69 #[.val (.int q1)] [(.int (880 : Int32)), (.int q1)]))
    by_cases hc69 : q1 < (880 : Int32)
    · refine own_st (fun t k => XS.icmpYes X0.here hx rfl (pc0 := 69) (pc' := 79) rfl (hb hby d3_69) rfl (tlt (hc69)).1 (by decide) (by decide) k) ?_
      show OGo p e below s ({ frames := 0, cells := 0, slots := 0, locals := 0 } : Room) (fun v' h' L => v' = some (.int r) ∧ L = [] ∧ h' = h0) (T0.setTop (mkF m 79 #[.val (.int q1)] []))
      exact B79 (hB.trans (by simp [nb3_65, hc69]))
    · refine own_st (fun t k => XS.icmpNo X0.here hx rfl (hb hby d3_69) rfl (flt (hc69)).1 k) ?_
      show OGo p e below s ({ frames := 0, cells := 0, slots := 0, locals := 0 } : Room) (fun v' h' L => v' = some (.int r) ∧ L = [] ∧ h' = h0) (T0.setTop (mkF m 72 #[.val (.int q1)] []))
      refine own_st (fun t k => XS.iloadN X0.here hx rfl (hb hby d3_72) rfl k) ?_
      show OGo p e below s ({ frames := 0, cells := 0, slots := 0, locals := 0 } : Room) (fun v' h' L => v' = some (.int r) ∧ L = [] ∧ h' = h0) (T0.setTop (mkF m 73 #[.val (.int q1)] [(.int q1)]))
      refine own_st (fun t k => XS.sipush X0.here hx rfl (hb hby d3_73) k) ?_
      show OGo p e below s ({ frames := 0, cells := 0, slots := 0, locals := 0 } : Room) (fun v' h' L => v' = some (.int r) ∧ L = [] ∧ h' = h0) (T0.setTop (mkF m 76 #[.val (.int q1)] [(.int (893 : Int32)), (.int q1)]))
      by_cases hc76 : (893 : Int32) < q1
      · refine own_st (fun t k => XS.icmpNo X0.here hx rfl (hb hby d3_76) rfl (tlt (hc76)).2.2.2 k) ?_
        show OGo p e below s ({ frames := 0, cells := 0, slots := 0, locals := 0 } : Room) (fun v' h' L => v' = some (.int r) ∧ L = [] ∧ h' = h0) (T0.setTop (mkF m 79 #[.val (.int q1)] []))
        exact B79 (hB.trans (by simp [nb3_65, hc69, hc76]))
      · refine own_st (fun t k => XS.icmpYes X0.here hx rfl (pc0 := 76) (pc' := 184) rfl (hb hby d3_76) rfl (flt (hc76)).2.2.2 (by decide) (by decide) k) ?_
        show OGo p e below s ({ frames := 0, cells := 0, slots := 0, locals := 0 } : Room) (fun v' h' L => v' = some (.int r) ∧ L = [] ∧ h' = h0) (T0.setTop (mkF m 184 #[.val (.int q1)] []))
        exact B184 (hB.trans (by simp [nb3_65, hc69, hc76]))
  have B51 : r = nb3_51 q1 → OGo p e below s ({ frames := 0, cells := 0, slots := 0, locals := 0 } : Room) (fun v' h' L => v' = some (.int r) ∧ L = [] ∧ h' = h0) (T0.setTop (mkF m 51 #[.val (.int q1)] [])) := by
    intro hB
    show OGo p e below s ({ frames := 0, cells := 0, slots := 0, locals := 0 } : Room) (fun v' h' L => v' = some (.int r) ∧ L = [] ∧ h' = h0) (T0.setTop (mkF m 51 #[.val (.int q1)] []))
    refine own_st (fun t k => XS.iloadN X0.here hx rfl (hb hby d3_51) rfl k) ?_
    show OGo p e below s ({ frames := 0, cells := 0, slots := 0, locals := 0 } : Room) (fun v' h' L => v' = some (.int r) ∧ L = [] ∧ h' = h0) (T0.setTop (mkF m 52 #[.val (.int q1)] [(.int q1)]))
    refine own_st (fun t k => XS.sipush X0.here hx rfl (hb hby d3_52) k) ?_
    show OGo p e below s ({ frames := 0, cells := 0, slots := 0, locals := 0 } : Room) (fun v' h' L => v' = some (.int r) ∧ L = [] ∧ h' = h0) (T0.setTop (mkF m 55 #[.val (.int q1)] [(.int (248 : Int32)), (.int q1)]))
    by_cases hc55 : q1 < (248 : Int32)
    · refine own_st (fun t k => XS.icmpYes X0.here hx rfl (pc0 := 55) (pc' := 65) rfl (hb hby d3_55) rfl (tlt (hc55)).1 (by decide) (by decide) k) ?_
      show OGo p e below s ({ frames := 0, cells := 0, slots := 0, locals := 0 } : Room) (fun v' h' L => v' = some (.int r) ∧ L = [] ∧ h' = h0) (T0.setTop (mkF m 65 #[.val (.int q1)] []))
      exact B65 (hB.trans (by simp [nb3_51, hc55]))
    · refine own_st (fun t k => XS.icmpNo X0.here hx rfl (hb hby d3_55) rfl (flt (hc55)).1 k) ?_
      show OGo p e below s ({ frames := 0, cells := 0, slots := 0, locals := 0 } : Room) (fun v' h' L => v' = some (.int r) ∧ L = [] ∧ h' = h0) (T0.setTop (mkF m 58 #[.val (.int q1)] []))
      refine own_st (fun t k => XS.iloadN X0.here hx rfl (hb hby d3_58) rfl k) ?_
      show OGo p e below s ({ frames := 0, cells := 0, slots := 0, locals := 0 } : Room) (fun v' h' L => v' = some (.int r) ∧ L = [] ∧ h' = h0) (T0.setTop (mkF m 59 #[.val (.int q1)] [(.int q1)]))
      refine own_st (fun t k => XS.sipush X0.here hx rfl (hb hby d3_59) k) ?_
      show OGo p e below s ({ frames := 0, cells := 0, slots := 0, locals := 0 } : Room) (fun v' h' L => v' = some (.int r) ∧ L = [] ∧ h' = h0) (T0.setTop (mkF m 62 #[.val (.int q1)] [(.int (767 : Int32)), (.int q1)]))
      by_cases hc62 : (767 : Int32) < q1
      · refine own_st (fun t k => XS.icmpNo X0.here hx rfl (hb hby d3_62) rfl (tlt (hc62)).2.2.2 k) ?_
        show OGo p e below s ({ frames := 0, cells := 0, slots := 0, locals := 0 } : Room) (fun v' h' L => v' = some (.int r) ∧ L = [] ∧ h' = h0) (T0.setTop (mkF m 65 #[.val (.int q1)] []))
        exact B65 (hB.trans (by simp [nb3_51, hc55, hc62]))
      · refine own_st (fun t k => XS.icmpYes X0.here hx rfl (pc0 := 62) (pc' := 184) rfl (hb hby d3_62) rfl (flt (hc62)).2.2.2 (by decide) (by decide) k) ?_
        show OGo p e below s ({ frames := 0, cells := 0, slots := 0, locals := 0 } : Room) (fun v' h' L => v' = some (.int r) ∧ L = [] ∧ h' = h0) (T0.setTop (mkF m 184 #[.val (.int q1)] []))
        exact B184 (hB.trans (by simp [nb3_51, hc55, hc62]))
  have B37 : r = nb3_37 q1 → OGo p e below s ({ frames := 0, cells := 0, slots := 0, locals := 0 } : Room) (fun v' h' L => v' = some (.int r) ∧ L = [] ∧ h' = h0) (T0.setTop (mkF m 37 #[.val (.int q1)] [])) := by
    intro hB
    show OGo p e below s ({ frames := 0, cells := 0, slots := 0, locals := 0 } : Room) (fun v' h' L => v' = some (.int r) ∧ L = [] ∧ h' = h0) (T0.setTop (mkF m 37 #[.val (.int q1)] []))
    refine own_st (fun t k => XS.iloadN X0.here hx rfl (hb hby d3_37) rfl k) ?_
    show OGo p e below s ({ frames := 0, cells := 0, slots := 0, locals := 0 } : Room) (fun v' h' L => v' = some (.int r) ∧ L = [] ∧ h' = h0) (T0.setTop (mkF m 38 #[.val (.int q1)] [(.int q1)]))
    refine own_st (fun t k => XS.sipush X0.here hx rfl (hb hby d3_38) k) ?_
    show OGo p e below s ({ frames := 0, cells := 0, slots := 0, locals := 0 } : Room) (fun v' h' L => v' = some (.int r) ∧ L = [] ∧ h' = h0) (T0.setTop (mkF m 41 #[.val (.int q1)] [(.int (216 : Int32)), (.int q1)]))
    by_cases hc41 : q1 < (216 : Int32)
    · refine own_st (fun t k => XS.icmpYes X0.here hx rfl (pc0 := 41) (pc' := 51) rfl (hb hby d3_41) rfl (tlt (hc41)).1 (by decide) (by decide) k) ?_
      show OGo p e below s ({ frames := 0, cells := 0, slots := 0, locals := 0 } : Room) (fun v' h' L => v' = some (.int r) ∧ L = [] ∧ h' = h0) (T0.setTop (mkF m 51 #[.val (.int q1)] []))
      exact B51 (hB.trans (by simp [nb3_37, hc41]))
    · refine own_st (fun t k => XS.icmpNo X0.here hx rfl (hb hby d3_41) rfl (flt (hc41)).1 k) ?_
      show OGo p e below s ({ frames := 0, cells := 0, slots := 0, locals := 0 } : Room) (fun v' h' L => v' = some (.int r) ∧ L = [] ∧ h' = h0) (T0.setTop (mkF m 44 #[.val (.int q1)] []))
      refine own_st (fun t k => XS.iloadN X0.here hx rfl (hb hby d3_44) rfl k) ?_
      show OGo p e below s ({ frames := 0, cells := 0, slots := 0, locals := 0 } : Room) (fun v' h' L => v' = some (.int r) ∧ L = [] ∧ h' = h0) (T0.setTop (mkF m 45 #[.val (.int q1)] [(.int q1)]))
      refine own_st (fun t k => XS.sipush X0.here hx rfl (hb hby d3_45) k) ?_
      show OGo p e below s ({ frames := 0, cells := 0, slots := 0, locals := 0 } : Room) (fun v' h' L => v' = some (.int r) ∧ L = [] ∧ h' = h0) (T0.setTop (mkF m 48 #[.val (.int q1)] [(.int (246 : Int32)), (.int q1)]))
      by_cases hc48 : (246 : Int32) < q1
      · refine own_st (fun t k => XS.icmpNo X0.here hx rfl (hb hby d3_48) rfl (tlt (hc48)).2.2.2 k) ?_
        show OGo p e below s ({ frames := 0, cells := 0, slots := 0, locals := 0 } : Room) (fun v' h' L => v' = some (.int r) ∧ L = [] ∧ h' = h0) (T0.setTop (mkF m 51 #[.val (.int q1)] []))
        exact B51 (hB.trans (by simp [nb3_37, hc41, hc48]))
      · refine own_st (fun t k => XS.icmpYes X0.here hx rfl (pc0 := 48) (pc' := 184) rfl (hb hby d3_48) rfl (flt (hc48)).2.2.2 (by decide) (by decide) k) ?_
        show OGo p e below s ({ frames := 0, cells := 0, slots := 0, locals := 0 } : Room) (fun v' h' L => v' = some (.int r) ∧ L = [] ∧ h' = h0) (T0.setTop (mkF m 184 #[.val (.int q1)] []))
        exact B184 (hB.trans (by simp [nb3_37, hc41, hc48]))
  have B23 : r = nb3_23 q1 → OGo p e below s ({ frames := 0, cells := 0, slots := 0, locals := 0 } : Room) (fun v' h' L => v' = some (.int r) ∧ L = [] ∧ h' = h0) (T0.setTop (mkF m 23 #[.val (.int q1)] [])) := by
    intro hB
    show OGo p e below s ({ frames := 0, cells := 0, slots := 0, locals := 0 } : Room) (fun v' h' L => v' = some (.int r) ∧ L = [] ∧ h' = h0) (T0.setTop (mkF m 23 #[.val (.int q1)] []))
    refine own_st (fun t k => XS.iloadN X0.here hx rfl (hb hby d3_23) rfl k) ?_
    show OGo p e below s ({ frames := 0, cells := 0, slots := 0, locals := 0 } : Room) (fun v' h' L => v' = some (.int r) ∧ L = [] ∧ h' = h0) (T0.setTop (mkF m 24 #[.val (.int q1)] [(.int q1)]))
    refine own_st (fun t k => XS.sipush X0.here hx rfl (hb hby d3_24) k) ?_
    show OGo p e below s ({ frames := 0, cells := 0, slots := 0, locals := 0 } : Room) (fun v' h' L => v' = some (.int r) ∧ L = [] ∧ h' = h0) (T0.setTop (mkF m 27 #[.val (.int q1)] [(.int (192 : Int32)), (.int q1)]))
    by_cases hc27 : q1 < (192 : Int32)
    · refine own_st (fun t k => XS.icmpYes X0.here hx rfl (pc0 := 27) (pc' := 37) rfl (hb hby d3_27) rfl (tlt (hc27)).1 (by decide) (by decide) k) ?_
      show OGo p e below s ({ frames := 0, cells := 0, slots := 0, locals := 0 } : Room) (fun v' h' L => v' = some (.int r) ∧ L = [] ∧ h' = h0) (T0.setTop (mkF m 37 #[.val (.int q1)] []))
      exact B37 (hB.trans (by simp [nb3_23, hc27]))
    · refine own_st (fun t k => XS.icmpNo X0.here hx rfl (hb hby d3_27) rfl (flt (hc27)).1 k) ?_
      show OGo p e below s ({ frames := 0, cells := 0, slots := 0, locals := 0 } : Room) (fun v' h' L => v' = some (.int r) ∧ L = [] ∧ h' = h0) (T0.setTop (mkF m 30 #[.val (.int q1)] []))
      refine own_st (fun t k => XS.iloadN X0.here hx rfl (hb hby d3_30) rfl k) ?_
      show OGo p e below s ({ frames := 0, cells := 0, slots := 0, locals := 0 } : Room) (fun v' h' L => v' = some (.int r) ∧ L = [] ∧ h' = h0) (T0.setTop (mkF m 31 #[.val (.int q1)] [(.int q1)]))
      refine own_st (fun t k => XS.sipush X0.here hx rfl (hb hby d3_31) k) ?_
      show OGo p e below s ({ frames := 0, cells := 0, slots := 0, locals := 0 } : Room) (fun v' h' L => v' = some (.int r) ∧ L = [] ∧ h' = h0) (T0.setTop (mkF m 34 #[.val (.int q1)] [(.int (214 : Int32)), (.int q1)]))
      by_cases hc34 : (214 : Int32) < q1
      · refine own_st (fun t k => XS.icmpNo X0.here hx rfl (hb hby d3_34) rfl (tlt (hc34)).2.2.2 k) ?_
        show OGo p e below s ({ frames := 0, cells := 0, slots := 0, locals := 0 } : Room) (fun v' h' L => v' = some (.int r) ∧ L = [] ∧ h' = h0) (T0.setTop (mkF m 37 #[.val (.int q1)] []))
        exact B37 (hB.trans (by simp [nb3_23, hc27, hc34]))
      · refine own_st (fun t k => XS.icmpYes X0.here hx rfl (pc0 := 34) (pc' := 184) rfl (hb hby d3_34) rfl (flt (hc34)).2.2.2 (by decide) (by decide) k) ?_
        show OGo p e below s ({ frames := 0, cells := 0, slots := 0, locals := 0 } : Room) (fun v' h' L => v' = some (.int r) ∧ L = [] ∧ h' = h0) (T0.setTop (mkF m 184 #[.val (.int q1)] []))
        exact B184 (hB.trans (by simp [nb3_23, hc27, hc34]))
  have B21 : r = nb3_21 q1 → OGo p e below s ({ frames := 0, cells := 0, slots := 0, locals := 0 } : Room) (fun v' h' L => v' = some (.int r) ∧ L = [] ∧ h' = h0) (T0.setTop (mkF m 21 #[.val (.int q1)] [])) := by
    intro hB
    show OGo p e below s ({ frames := 0, cells := 0, slots := 0, locals := 0 } : Room) (fun v' h' L => v' = some (.int r) ∧ L = [] ∧ h' = h0) (T0.setTop (mkF m 21 #[.val (.int q1)] []))
    refine own_st (fun t k => XS.iconst X0.here hx rfl (hb hby d3_21) k) ?_
    show OGo p e below s ({ frames := 0, cells := 0, slots := 0, locals := 0 } : Room) (fun v' h' L => v' = some (.int r) ∧ L = [] ∧ h' = h0) (T0.setTop (mkF m 22 #[.val (.int q1)] [(.int (0 : Int32))]))
    exact own_retN X0 hx hlk (t := .boolean) hret (by simp) (hb hby d3_22) (by decide) (by decide) (⟨by rw [own_b0, hB]; simp [nb3_21], rfl, e0⟩)
  have B0 : r = nb3_0 q1 → OGo p e below s ({ frames := 0, cells := 0, slots := 0, locals := 0 } : Room) (fun v' h' L => v' = some (.int r) ∧ L = [] ∧ h' = h0) (T0.setTop (mkF m 0 #[.val (.int q1)] [])) := by
    intro hB
    show OGo p e below s ({ frames := 0, cells := 0, slots := 0, locals := 0 } : Room) (fun v' h' L => v' = some (.int r) ∧ L = [] ∧ h' = h0) (T0.setTop (mkF m 0 #[.val (.int q1)] []))
    refine own_st (fun t k => XS.iloadN X0.here hx rfl (hb hby d3_0) rfl k) ?_
    show OGo p e below s ({ frames := 0, cells := 0, slots := 0, locals := 0 } : Room) (fun v' h' L => v' = some (.int r) ∧ L = [] ∧ h' = h0) (T0.setTop (mkF m 1 #[.val (.int q1)] [(.int q1)]))
    refine own_st (fun t k => XS.sipush X0.here hx rfl (hb hby d3_1) k) ?_
    show OGo p e below s ({ frames := 0, cells := 0, slots := 0, locals := 0 } : Room) (fun v' h' L => v' = some (.int r) ∧ L = [] ∧ h' = h0) (T0.setTop (mkF m 4 #[.val (.int q1)] [(.int (128 : Int32)), (.int q1)]))
    by_cases hc4 : q1 < (128 : Int32)
    · refine own_st (fun t k => XS.icmpNo X0.here hx rfl (hb hby d3_4) rfl (tlt (hc4)).2.1 k) ?_
      show OGo p e below s ({ frames := 0, cells := 0, slots := 0, locals := 0 } : Room) (fun v' h' L => v' = some (.int r) ∧ L = [] ∧ h' = h0) (T0.setTop (mkF m 7 #[.val (.int q1)] []))
      obtain ⟨T1, X1, e1, st1⟩ := getS2 X0 hx hZ hown (host := "") (Or.inl (hw _ (List.mem_of_getElem? (i := 20) rfl))) Via.refl e0 S_ASCII (g := (mkF m 7 #[.val (.int q1)] [])) rfl (hb hby d3_7)
      refine own_st st1 ?_
      show OGo p e below s ({ frames := 0, cells := 0, slots := 0, locals := 0 } : Room) (fun v' h' L => v' = some (.int r) ∧ L = [] ∧ h' = h0) (T1.setTop (mkF m 10 #[.val (.int q1)] [(.ref b1)]))
      refine own_st (fun t k => XS.iloadN X1.here hx rfl (hb hby d3_10) rfl k) ?_
      show OGo p e below s ({ frames := 0, cells := 0, slots := 0, locals := 0 } : Room) (fun v' h' L => v' = some (.int r) ∧ L = [] ∧ h' = h0) (T1.setTop (mkF m 11 #[.val (.int q1)] [(.int q1), (.ref b1)]))
      obtain ⟨cl2, Ar2, Sz2, Hh2⟩ := id A_b1
      have hin2 := own_in (i := q1) Sz2 h0c (h128 hc4)
      refine own_st (X1.baloadBytes hx (j := q1) (v := (.int (own_tab q1.toNatClampNeg))) (by rw [e1]; exact Ar2.1) (State.isArrayOf_alike hZ.alike Ar2.2.1) Ar2.2.2 hin2 ((Hh2 _ (h128 hc4)).trans (congrArg some rfl)) (g := (mkF m 11 #[.val (.int q1)] [(.int q1), (.ref b1)])) rfl rfl (hb hby d3_11)) ?_
      show OGo p e below s ({ frames := 0, cells := 0, slots := 0, locals := 0 } : Room) (fun v' h' L => v' = some (.int r) ∧ L = [] ∧ h' = h0) (T1.setTop (mkF m 12 #[.val (.int q1)] [(.int (own_tab q1.toNatClampNeg))]))
      refine own_st (fun t k => XS.iconst X1.here hx rfl (hb hby d3_12) k) ?_
      show OGo p e below s ({ frames := 0, cells := 0, slots := 0, locals := 0 } : Room) (fun v' h' L => v' = some (.int r) ∧ L = [] ∧ h' = h0) (T1.setTop (mkF m 13 #[.val (.int q1)] [(.int (1 : Int32)), (.int (own_tab q1.toNatClampNeg))]))
      refine own_st (fun t k => XS.iand X1.here hx rfl (hb hby d3_13) rfl k) ?_
      show OGo p e below s ({ frames := 0, cells := 0, slots := 0, locals := 0 } : Room) (fun v' h' L => v' = some (.int r) ∧ L = [] ∧ h' = h0) (T1.setTop (mkF m 14 #[.val (.int q1)] [(.int ((own_tab q1.toNatClampNeg) &&& (1 : Int32)))]))
      by_cases hc14 : ((own_tab q1.toNatClampNeg) &&& (1 : Int32)) = (0 : Int32)
      · refine own_st (fun t k => XS.ifYes X1.here hx rfl (pc0 := 14) (pc' := 21) rfl (hb hby d3_14) rfl ((if0 _ _).trans (teq (hc14)).1) (by decide) (by decide) k) ?_
        show OGo p e below s ({ frames := 0, cells := 0, slots := 0, locals := 0 } : Room) (fun v' h' L => v' = some (.int r) ∧ L = [] ∧ h' = h0) (T1.setTop (mkF m 21 #[.val (.int q1)] []))
        refine own_st (fun t k => XS.iconst X1.here hx rfl (hb hby d3_21) k) ?_
        show OGo p e below s ({ frames := 0, cells := 0, slots := 0, locals := 0 } : Room) (fun v' h' L => v' = some (.int r) ∧ L = [] ∧ h' = h0) (T1.setTop (mkF m 22 #[.val (.int q1)] [(.int (0 : Int32))]))
        exact own_retN X1 hx hlk (t := .boolean) hret (by simp) (hb hby d3_22) (by decide) (by decide) (⟨by rw [own_b0, hB]; simp [nb3_0, hc4, hc14], rfl, e1⟩)
      · refine own_st (fun t k => XS.ifNo X1.here hx rfl (hb hby d3_14) rfl ((if0 _ _).trans (feq (hc14)).1) k) ?_
        show OGo p e below s ({ frames := 0, cells := 0, slots := 0, locals := 0 } : Room) (fun v' h' L => v' = some (.int r) ∧ L = [] ∧ h' = h0) (T1.setTop (mkF m 17 #[.val (.int q1)] []))
        refine own_st (fun t k => XS.iconst X1.here hx rfl (hb hby d3_17) k) ?_
        show OGo p e below s ({ frames := 0, cells := 0, slots := 0, locals := 0 } : Room) (fun v' h' L => v' = some (.int r) ∧ L = [] ∧ h' = h0) (T1.setTop (mkF m 18 #[.val (.int q1)] [(.int (1 : Int32))]))
        refine own_st (fun t k => XS.goto X1.here hx rfl (pc0 := 18) (pc' := 22) rfl (hb hby d3_18) (by decide) (by decide) k) ?_
        show OGo p e below s ({ frames := 0, cells := 0, slots := 0, locals := 0 } : Room) (fun v' h' L => v' = some (.int r) ∧ L = [] ∧ h' = h0) (T1.setTop (mkF m 22 #[.val (.int q1)] [(.int (1 : Int32))]))
        exact own_retN X1 hx hlk (t := .boolean) hret (by simp) (hb hby d3_22) (by decide) (by decide) (⟨by rw [own_b1, hB]; simp [nb3_0, hc4, hc14], rfl, e1⟩)
    · refine own_st (fun t k => XS.icmpYes X0.here hx rfl (pc0 := 4) (pc' := 23) rfl (hb hby d3_4) rfl (flt (hc4)).2.1 (by decide) (by decide) k) ?_
      show OGo p e below s ({ frames := 0, cells := 0, slots := 0, locals := 0 } : Room) (fun v' h' L => v' = some (.int r) ∧ L = [] ∧ h' = h0) (T0.setTop (mkF m 23 #[.val (.int q1)] []))
      exact B23 (hB.trans (by simp [nb3_0, hc4]))
  exact B0 hr
def nb4_203 (q1 : Int32) : Int32 := (0 : Int32)
def nb4_193 (q1 : Int32) : Int32 := (1 : Int32)
def nb4_189 (q1 : Int32) : Int32 := (0 : Int32)
def nb4_183 (q1 : Int32) : Int32 := (if q1 < (983040 : Int32) then (nb4_193 q1) else (nb4_189 q1))
def nb4_171 (q1 : Int32) : Int32 := (if q1 < (65534 : Int32) then (nb4_183 q1) else (if (65535 : Int32) < q1 then (nb4_183 q1) else (nb4_189 q1)))
def nb4_159 (q1 : Int32) : Int32 := (if q1 < (64976 : Int32) then (nb4_171 q1) else (if (65007 : Int32) < q1 then (nb4_171 q1) else (nb4_189 q1)))
def nb4_147 (q1 : Int32) : Int32 := (if q1 < (55296 : Int32) then (nb4_159 q1) else (if (63743 : Int32) < q1 then (nb4_159 q1) else (nb4_189 q1)))
def nb4_133 (q1 : Int32) : Int32 := (if q1 < (12272 : Int32) then (nb4_147 q1) else (if (12288 : Int32) < q1 then (nb4_147 q1) else (nb4_189 q1)))
def nb4_119 (q1 : Int32) : Int32 := (if q1 < (8592 : Int32) then (nb4_133 q1) else (if (11263 : Int32) < q1 then (nb4_133 q1) else (nb4_189 q1)))
def nb4_105 (q1 : Int32) : Int32 := (if q1 < (8206 : Int32) then (nb4_119 q1) else (if (8303 : Int32) < q1 then (nb4_119 q1) else (nb4_189 q1)))
def nb4_84 (q1 : Int32) : Int32 := (if q1 = (894 : Int32) then (nb4_189 q1) else (if q1 < (8192 : Int32) then (nb4_105 q1) else (if (8203 : Int32) < q1 then (nb4_105 q1) else (nb4_189 q1))))
def nb4_49 (q1 : Int32) : Int32 := (if (191 : Int32) < q1 then (if q1 = (215 : Int32) then (nb4_189 q1) else (if q1 = (247 : Int32) then (nb4_189 q1) else (if q1 < (768 : Int32) then (nb4_84 q1) else (if (879 : Int32) < q1 then (nb4_84 q1) else (nb4_189 q1))))) else (nb4_189 q1))
def nb4_47 (q1 : Int32) : Int32 := (0 : Int32)
def nb4_43 (q1 : Int32) : Int32 := (1 : Int32)
def nb4_31 (q1 : Int32) : Int32 := (if q1 = (95 : Int32) then (nb4_43 q1) else (if q1 = (58 : Int32) then (nb4_43 q1) else (nb4_47 q1)))
def nb4_19 (q1 : Int32) : Int32 := (if q1 < (97 : Int32) then (nb4_31 q1) else (if (122 : Int32) < q1 then (nb4_31 q1) else (nb4_43 q1)))
def nb4_0 (q1 : Int32) : Int32 := (if q1 < (128 : Int32) then (if q1 < (65 : Int32) then (nb4_19 q1) else (if (90 : Int32) < q1 then (nb4_19 q1) else (nb4_43 q1))) else (nb4_49 q1))
theorem pn_com_example_cartulary_cartulary_XmlNamesIsNameStartPinLaw : plainName "com/example/cartulary/cartulary/XmlNamesIsNameStartPinLaw" = true := by first | (simp [plainName, overriddenIn]; done) | decide +kernel
theorem ef_4_I (m : MethodId) (x0 : Int32) : entryFrame m #[(.int x0)] 2 = mkF m 0 #[.val (.int x0), .unset] [] := by first | (simp [entryFrame, mkF, argsToLocals, Value.category]; done) | rfl
theorem d4_203 : decode method_2_code 203 = .ok (.iconst 0, 1) := by decide +kernel
theorem d4_204 : decode method_2_code 204 = .ok (.ireturn, 1) := by decide +kernel
theorem d4_193 : decode method_2_code 193 = .ok (.iconst 0, 1) := by decide +kernel
theorem d4_194 : decode method_2_code 194 = .ok (.istore_n 1, 1) := by decide +kernel
theorem d4_195 : decode method_2_code 195 = .ok (.iload_n 1, 1) := by decide +kernel
theorem d4_196 : decode method_2_code 196 = .ok (.ifCond .ne 7, 3) := by decide +kernel
theorem d4_199 : decode method_2_code 199 = .ok (.iconst 1, 1) := by decide +kernel
theorem d4_200 : decode method_2_code 200 = .ok (.goto 4, 3) := by decide +kernel
theorem d4_189 : decode method_2_code 189 = .ok (.iconst 1, 1) := by decide +kernel
theorem d4_190 : decode method_2_code 190 = .ok (.goto 4, 3) := by decide +kernel
theorem d4_183 : decode method_2_code 183 = .ok (.iload_n 0, 1) := by decide +kernel
theorem d4_184 : decode method_2_code 184 = .ok (.ldc 13, 2) := by decide +kernel
theorem d4_186 : decode method_2_code 186 = .ok (.if_icmp .lt 7, 3) := by decide +kernel
theorem d4_171 : decode method_2_code 171 = .ok (.iload_n 0, 1) := by decide +kernel
theorem d4_172 : decode method_2_code 172 = .ok (.ldc 11, 2) := by decide +kernel
theorem d4_174 : decode method_2_code 174 = .ok (.if_icmp .lt 9, 3) := by decide +kernel
theorem d4_177 : decode method_2_code 177 = .ok (.iload_n 0, 1) := by decide +kernel
theorem d4_178 : decode method_2_code 178 = .ok (.ldc 12, 2) := by decide +kernel
theorem d4_180 : decode method_2_code 180 = .ok (.if_icmp .le 9, 3) := by decide +kernel
theorem d4_159 : decode method_2_code 159 = .ok (.iload_n 0, 1) := by decide +kernel
theorem d4_160 : decode method_2_code 160 = .ok (.ldc 9, 2) := by decide +kernel
theorem d4_162 : decode method_2_code 162 = .ok (.if_icmp .lt 9, 3) := by decide +kernel
theorem d4_165 : decode method_2_code 165 = .ok (.iload_n 0, 1) := by decide +kernel
theorem d4_166 : decode method_2_code 166 = .ok (.ldc 10, 2) := by decide +kernel
theorem d4_168 : decode method_2_code 168 = .ok (.if_icmp .le 21, 3) := by decide +kernel
theorem d4_147 : decode method_2_code 147 = .ok (.iload_n 0, 1) := by decide +kernel
theorem d4_148 : decode method_2_code 148 = .ok (.ldc 7, 2) := by decide +kernel
theorem d4_150 : decode method_2_code 150 = .ok (.if_icmp .lt 9, 3) := by decide +kernel
theorem d4_153 : decode method_2_code 153 = .ok (.iload_n 0, 1) := by decide +kernel
theorem d4_154 : decode method_2_code 154 = .ok (.ldc 8, 2) := by decide +kernel
theorem d4_156 : decode method_2_code 156 = .ok (.if_icmp .le 33, 3) := by decide +kernel
theorem d4_133 : decode method_2_code 133 = .ok (.iload_n 0, 1) := by decide +kernel
theorem d4_134 : decode method_2_code 134 = .ok (.sipush 12272, 3) := by decide +kernel
theorem d4_137 : decode method_2_code 137 = .ok (.if_icmp .lt 10, 3) := by decide +kernel
theorem d4_140 : decode method_2_code 140 = .ok (.iload_n 0, 1) := by decide +kernel
theorem d4_141 : decode method_2_code 141 = .ok (.sipush 12288, 3) := by decide +kernel
theorem d4_144 : decode method_2_code 144 = .ok (.if_icmp .le 45, 3) := by decide +kernel
theorem d4_119 : decode method_2_code 119 = .ok (.iload_n 0, 1) := by decide +kernel
theorem d4_120 : decode method_2_code 120 = .ok (.sipush 8592, 3) := by decide +kernel
theorem d4_123 : decode method_2_code 123 = .ok (.if_icmp .lt 10, 3) := by decide +kernel
theorem d4_126 : decode method_2_code 126 = .ok (.iload_n 0, 1) := by decide +kernel
theorem d4_127 : decode method_2_code 127 = .ok (.sipush 11263, 3) := by decide +kernel
theorem d4_130 : decode method_2_code 130 = .ok (.if_icmp .le 59, 3) := by decide +kernel
theorem d4_105 : decode method_2_code 105 = .ok (.iload_n 0, 1) := by decide +kernel
theorem d4_106 : decode method_2_code 106 = .ok (.sipush 8206, 3) := by decide +kernel
theorem d4_109 : decode method_2_code 109 = .ok (.if_icmp .lt 10, 3) := by decide +kernel
theorem d4_112 : decode method_2_code 112 = .ok (.iload_n 0, 1) := by decide +kernel
theorem d4_113 : decode method_2_code 113 = .ok (.sipush 8303, 3) := by decide +kernel
theorem d4_116 : decode method_2_code 116 = .ok (.if_icmp .le 73, 3) := by decide +kernel
theorem d4_84 : decode method_2_code 84 = .ok (.iload_n 0, 1) := by decide +kernel
theorem d4_85 : decode method_2_code 85 = .ok (.sipush 894, 3) := by decide +kernel
theorem d4_88 : decode method_2_code 88 = .ok (.if_icmp .eq 101, 3) := by decide +kernel
theorem d4_91 : decode method_2_code 91 = .ok (.iload_n 0, 1) := by decide +kernel
theorem d4_92 : decode method_2_code 92 = .ok (.sipush 8192, 3) := by decide +kernel
theorem d4_95 : decode method_2_code 95 = .ok (.if_icmp .lt 10, 3) := by decide +kernel
theorem d4_98 : decode method_2_code 98 = .ok (.iload_n 0, 1) := by decide +kernel
theorem d4_99 : decode method_2_code 99 = .ok (.sipush 8203, 3) := by decide +kernel
theorem d4_102 : decode method_2_code 102 = .ok (.if_icmp .le 87, 3) := by decide +kernel
theorem d4_49 : decode method_2_code 49 = .ok (.iload_n 0, 1) := by decide +kernel
theorem d4_50 : decode method_2_code 50 = .ok (.sipush 191, 3) := by decide +kernel
theorem d4_53 : decode method_2_code 53 = .ok (.if_icmp .le 136, 3) := by decide +kernel
theorem d4_56 : decode method_2_code 56 = .ok (.iload_n 0, 1) := by decide +kernel
theorem d4_57 : decode method_2_code 57 = .ok (.sipush 215, 3) := by decide +kernel
theorem d4_60 : decode method_2_code 60 = .ok (.if_icmp .eq 129, 3) := by decide +kernel
theorem d4_63 : decode method_2_code 63 = .ok (.iload_n 0, 1) := by decide +kernel
theorem d4_64 : decode method_2_code 64 = .ok (.sipush 247, 3) := by decide +kernel
theorem d4_67 : decode method_2_code 67 = .ok (.if_icmp .eq 122, 3) := by decide +kernel
theorem d4_70 : decode method_2_code 70 = .ok (.iload_n 0, 1) := by decide +kernel
theorem d4_71 : decode method_2_code 71 = .ok (.sipush 768, 3) := by decide +kernel
theorem d4_74 : decode method_2_code 74 = .ok (.if_icmp .lt 10, 3) := by decide +kernel
theorem d4_77 : decode method_2_code 77 = .ok (.iload_n 0, 1) := by decide +kernel
theorem d4_78 : decode method_2_code 78 = .ok (.sipush 879, 3) := by decide +kernel
theorem d4_81 : decode method_2_code 81 = .ok (.if_icmp .le 108, 3) := by decide +kernel
theorem d4_47 : decode method_2_code 47 = .ok (.iconst 0, 1) := by decide +kernel
theorem d4_48 : decode method_2_code 48 = .ok (.ireturn, 1) := by decide +kernel
theorem d4_43 : decode method_2_code 43 = .ok (.iconst 1, 1) := by decide +kernel
theorem d4_44 : decode method_2_code 44 = .ok (.goto 4, 3) := by decide +kernel
theorem d4_31 : decode method_2_code 31 = .ok (.iload_n 0, 1) := by decide +kernel
theorem d4_32 : decode method_2_code 32 = .ok (.bipush 95, 2) := by decide +kernel
theorem d4_34 : decode method_2_code 34 = .ok (.if_icmp .eq 9, 3) := by decide +kernel
theorem d4_37 : decode method_2_code 37 = .ok (.iload_n 0, 1) := by decide +kernel
theorem d4_38 : decode method_2_code 38 = .ok (.bipush 58, 2) := by decide +kernel
theorem d4_40 : decode method_2_code 40 = .ok (.if_icmp .ne 7, 3) := by decide +kernel
theorem d4_19 : decode method_2_code 19 = .ok (.iload_n 0, 1) := by decide +kernel
theorem d4_20 : decode method_2_code 20 = .ok (.bipush 97, 2) := by decide +kernel
theorem d4_22 : decode method_2_code 22 = .ok (.if_icmp .lt 9, 3) := by decide +kernel
theorem d4_25 : decode method_2_code 25 = .ok (.iload_n 0, 1) := by decide +kernel
theorem d4_26 : decode method_2_code 26 = .ok (.bipush 122, 2) := by decide +kernel
theorem d4_28 : decode method_2_code 28 = .ok (.if_icmp .le 15, 3) := by decide +kernel
theorem d4_0 : decode method_2_code 0 = .ok (.iload_n 0, 1) := by decide +kernel
theorem d4_1 : decode method_2_code 1 = .ok (.sipush 128, 3) := by decide +kernel
theorem d4_4 : decode method_2_code 4 = .ok (.if_icmp .ge 45, 3) := by decide +kernel
theorem d4_7 : decode method_2_code 7 = .ok (.iload_n 0, 1) := by decide +kernel
theorem d4_8 : decode method_2_code 8 = .ok (.bipush 65, 2) := by decide +kernel
theorem d4_10 : decode method_2_code 10 = .ok (.if_icmp .lt 9, 3) := by decide +kernel
theorem d4_13 : decode method_2_code 13 = .ok (.iload_n 0, 1) := by decide +kernel
theorem d4_14 : decode method_2_code 14 = .ok (.bipush 90, 2) := by decide +kernel
theorem d4_16 : decode method_2_code 16 = .ok (.if_icmp .le 27, 3) := by decide +kernel
set_option maxRecDepth 65536 in
set_option maxHeartbeats 40000000 in
theorem rm4 (l : Launch) (Z : State) (a0 : Array Value) (hw : ∀ d ∈ tables_1, d.before a0 Z = true) (q1 : Int32) (r : Int32) (h0 : Heap) (hr : r = nb4_0 q1) :
    OPure l Z (⟨"com/example/cartulary/cartulary/XmlNamesIsNameStartPinLaw", "reference", "(I)Z"⟩ : MethodName) method_2_code 2 (some .boolean) [] ({ frames := 0, cells := 0, slots := 0, locals := 0 } : Room) #[(.int q1)] h0 (some (.int r)) := by
  refine own_body (plainFor_of_name pn_com_example_cartulary_cartulary_XmlNamesIsNameStartPinLaw) (fun m => ef_4_I m q1) ?_
  intro p e s m below meth c T0 hx hby hml hown hnm hret hlk hZ X0 e0
  have hown : s.vm.findClass "com/example/cartulary/cartulary/XmlNamesIsNameStartPinLaw" = some m.cls := hown
  have hml : c.maxLocals = 2 := hml
  show OGo p e below s _ _ (T0.setTop (mkF m 0 #[.val (.int q1), .unset] []))
  have B203 : r = nb4_203 q1 → OGo p e below s ({ frames := 0, cells := 0, slots := 0, locals := 0 } : Room) (fun v' h' L => v' = some (.int r) ∧ L = [] ∧ h' = h0) (T0.setTop (mkF m 203 #[.val (.int q1), .unset] [])) := by
    intro hB
    show OGo p e below s ({ frames := 0, cells := 0, slots := 0, locals := 0 } : Room) (fun v' h' L => v' = some (.int r) ∧ L = [] ∧ h' = h0) (T0.setTop (mkF m 203 #[.val (.int q1), .unset] []))
    refine own_st (fun t k => XS.iconst X0.here hx rfl (hb hby d4_203) k) ?_
    show OGo p e below s ({ frames := 0, cells := 0, slots := 0, locals := 0 } : Room) (fun v' h' L => v' = some (.int r) ∧ L = [] ∧ h' = h0) (T0.setTop (mkF m 204 #[.val (.int q1), .unset] [(.int (0 : Int32))]))
    exact own_retN X0 hx hlk (t := .boolean) hret (by simp) (hb hby d4_204) (by decide) (by decide) (⟨by rw [own_b0, hB]; simp [nb4_203], rfl, e0⟩)
  have B193 : r = nb4_193 q1 → OGo p e below s ({ frames := 0, cells := 0, slots := 0, locals := 0 } : Room) (fun v' h' L => v' = some (.int r) ∧ L = [] ∧ h' = h0) (T0.setTop (mkF m 193 #[.val (.int q1), .unset] [])) := by
    intro hB
    show OGo p e below s ({ frames := 0, cells := 0, slots := 0, locals := 0 } : Room) (fun v' h' L => v' = some (.int r) ∧ L = [] ∧ h' = h0) (T0.setTop (mkF m 193 #[.val (.int q1), .unset] []))
    refine own_st (fun t k => XS.iconst X0.here hx rfl (hb hby d4_193) k) ?_
    show OGo p e below s ({ frames := 0, cells := 0, slots := 0, locals := 0 } : Room) (fun v' h' L => v' = some (.int r) ∧ L = [] ∧ h' = h0) (T0.setTop (mkF m 194 #[.val (.int q1), .unset] [(.int (0 : Int32))]))
    refine own_st (fun t k => XS.istoreN X0.here hx rfl (hb hby d4_194) rfl (l' := #[.val (.int q1), .val (.int (0 : Int32))]) rfl k) ?_
    show OGo p e below s ({ frames := 0, cells := 0, slots := 0, locals := 0 } : Room) (fun v' h' L => v' = some (.int r) ∧ L = [] ∧ h' = h0) (T0.setTop (mkF m 195 #[.val (.int q1), .val (.int (0 : Int32))] []))
    refine own_st (fun t k => XS.iloadN X0.here hx rfl (hb hby d4_195) rfl k) ?_
    show OGo p e below s ({ frames := 0, cells := 0, slots := 0, locals := 0 } : Room) (fun v' h' L => v' = some (.int r) ∧ L = [] ∧ h' = h0) (T0.setTop (mkF m 196 #[.val (.int q1), .val (.int (0 : Int32))] [(.int (0 : Int32))]))
    refine own_st (fun t k => XS.ifNo X0.here hx rfl (hb hby d4_196) rfl ((if0 _ _).trans (teq ((by decide : (0 : Int32) = (0 : Int32)))).2) k) ?_
    show OGo p e below s ({ frames := 0, cells := 0, slots := 0, locals := 0 } : Room) (fun v' h' L => v' = some (.int r) ∧ L = [] ∧ h' = h0) (T0.setTop (mkF m 199 #[.val (.int q1), .val (.int (0 : Int32))] []))
    refine own_st (fun t k => XS.iconst X0.here hx rfl (hb hby d4_199) k) ?_
    show OGo p e below s ({ frames := 0, cells := 0, slots := 0, locals := 0 } : Room) (fun v' h' L => v' = some (.int r) ∧ L = [] ∧ h' = h0) (T0.setTop (mkF m 200 #[.val (.int q1), .val (.int (0 : Int32))] [(.int (1 : Int32))]))
    refine own_st (fun t k => XS.goto X0.here hx rfl (pc0 := 200) (pc' := 204) rfl (hb hby d4_200) (by decide) (by decide) k) ?_
    show OGo p e below s ({ frames := 0, cells := 0, slots := 0, locals := 0 } : Room) (fun v' h' L => v' = some (.int r) ∧ L = [] ∧ h' = h0) (T0.setTop (mkF m 204 #[.val (.int q1), .val (.int (0 : Int32))] [(.int (1 : Int32))]))
    exact own_retN X0 hx hlk (t := .boolean) hret (by simp) (hb hby d4_204) (by decide) (by decide) (⟨by rw [own_b1, hB]; simp [nb4_193], rfl, e0⟩)
  have B189 : r = nb4_189 q1 → OGo p e below s ({ frames := 0, cells := 0, slots := 0, locals := 0 } : Room) (fun v' h' L => v' = some (.int r) ∧ L = [] ∧ h' = h0) (T0.setTop (mkF m 189 #[.val (.int q1), .unset] [])) := by
    intro hB
    show OGo p e below s ({ frames := 0, cells := 0, slots := 0, locals := 0 } : Room) (fun v' h' L => v' = some (.int r) ∧ L = [] ∧ h' = h0) (T0.setTop (mkF m 189 #[.val (.int q1), .unset] []))
    refine own_st (fun t k => XS.iconst X0.here hx rfl (hb hby d4_189) k) ?_
    show OGo p e below s ({ frames := 0, cells := 0, slots := 0, locals := 0 } : Room) (fun v' h' L => v' = some (.int r) ∧ L = [] ∧ h' = h0) (T0.setTop (mkF m 190 #[.val (.int q1), .unset] [(.int (1 : Int32))]))
    refine own_st (fun t k => XS.goto X0.here hx rfl (pc0 := 190) (pc' := 194) rfl (hb hby d4_190) (by decide) (by decide) k) ?_
    show OGo p e below s ({ frames := 0, cells := 0, slots := 0, locals := 0 } : Room) (fun v' h' L => v' = some (.int r) ∧ L = [] ∧ h' = h0) (T0.setTop (mkF m 194 #[.val (.int q1), .unset] [(.int (1 : Int32))]))
    refine own_st (fun t k => XS.istoreN X0.here hx rfl (hb hby d4_194) rfl (l' := #[.val (.int q1), .val (.int (1 : Int32))]) rfl k) ?_
    show OGo p e below s ({ frames := 0, cells := 0, slots := 0, locals := 0 } : Room) (fun v' h' L => v' = some (.int r) ∧ L = [] ∧ h' = h0) (T0.setTop (mkF m 195 #[.val (.int q1), .val (.int (1 : Int32))] []))
    refine own_st (fun t k => XS.iloadN X0.here hx rfl (hb hby d4_195) rfl k) ?_
    show OGo p e below s ({ frames := 0, cells := 0, slots := 0, locals := 0 } : Room) (fun v' h' L => v' = some (.int r) ∧ L = [] ∧ h' = h0) (T0.setTop (mkF m 196 #[.val (.int q1), .val (.int (1 : Int32))] [(.int (1 : Int32))]))
    refine own_st (fun t k => XS.ifYes X0.here hx rfl (pc0 := 196) (pc' := 203) rfl (hb hby d4_196) rfl ((if0 _ _).trans (feq ((by decide : ¬ (1 : Int32) = (0 : Int32)))).2) (by decide) (by decide) k) ?_
    show OGo p e below s ({ frames := 0, cells := 0, slots := 0, locals := 0 } : Room) (fun v' h' L => v' = some (.int r) ∧ L = [] ∧ h' = h0) (T0.setTop (mkF m 203 #[.val (.int q1), .val (.int (1 : Int32))] []))
    refine own_st (fun t k => XS.iconst X0.here hx rfl (hb hby d4_203) k) ?_
    show OGo p e below s ({ frames := 0, cells := 0, slots := 0, locals := 0 } : Room) (fun v' h' L => v' = some (.int r) ∧ L = [] ∧ h' = h0) (T0.setTop (mkF m 204 #[.val (.int q1), .val (.int (1 : Int32))] [(.int (0 : Int32))]))
    exact own_retN X0 hx hlk (t := .boolean) hret (by simp) (hb hby d4_204) (by decide) (by decide) (⟨by rw [own_b0, hB]; simp [nb4_189], rfl, e0⟩)
  have B183 : r = nb4_183 q1 → OGo p e below s ({ frames := 0, cells := 0, slots := 0, locals := 0 } : Room) (fun v' h' L => v' = some (.int r) ∧ L = [] ∧ h' = h0) (T0.setTop (mkF m 183 #[.val (.int q1), .unset] [])) := by
    intro hB
    show OGo p e below s ({ frames := 0, cells := 0, slots := 0, locals := 0 } : Room) (fun v' h' L => v' = some (.int r) ∧ L = [] ∧ h' = h0) (T0.setTop (mkF m 183 #[.val (.int q1), .unset] []))
    refine own_st (fun t k => XS.iloadN X0.here hx rfl (hb hby d4_183) rfl k) ?_
    show OGo p e below s ({ frames := 0, cells := 0, slots := 0, locals := 0 } : Room) (fun v' h' L => v' = some (.int r) ∧ L = [] ∧ h' = h0) (T0.setTop (mkF m 184 #[.val (.int q1), .unset] [(.int q1)]))
    refine own_st (X0.ldcInt hx hown (mvT hZ (hw _ (List.mem_of_getElem? (i := 7) rfl))) (g := (mkF m 184 #[.val (.int q1), .unset] [(.int q1)])) rfl (hb hby d4_184)) ?_
    show OGo p e below s ({ frames := 0, cells := 0, slots := 0, locals := 0 } : Room) (fun v' h' L => v' = some (.int r) ∧ L = [] ∧ h' = h0) (T0.setTop (mkF m 186 #[.val (.int q1), .unset] [(.int (983040 : Int32)), (.int q1)]))
    by_cases hc186 : q1 < (983040 : Int32)
    · refine own_st (fun t k => XS.icmpYes X0.here hx rfl (pc0 := 186) (pc' := 193) rfl (hb hby d4_186) rfl (tlt (hc186)).1 (by decide) (by decide) k) ?_
      show OGo p e below s ({ frames := 0, cells := 0, slots := 0, locals := 0 } : Room) (fun v' h' L => v' = some (.int r) ∧ L = [] ∧ h' = h0) (T0.setTop (mkF m 193 #[.val (.int q1), .unset] []))
      exact B193 (hB.trans (by simp [nb4_183, hc186]))
    · refine own_st (fun t k => XS.icmpNo X0.here hx rfl (hb hby d4_186) rfl (flt (hc186)).1 k) ?_
      show OGo p e below s ({ frames := 0, cells := 0, slots := 0, locals := 0 } : Room) (fun v' h' L => v' = some (.int r) ∧ L = [] ∧ h' = h0) (T0.setTop (mkF m 189 #[.val (.int q1), .unset] []))
      exact B189 (hB.trans (by simp [nb4_183, hc186]))
  have B171 : r = nb4_171 q1 → OGo p e below s ({ frames := 0, cells := 0, slots := 0, locals := 0 } : Room) (fun v' h' L => v' = some (.int r) ∧ L = [] ∧ h' = h0) (T0.setTop (mkF m 171 #[.val (.int q1), .unset] [])) := by
    intro hB
    show OGo p e below s ({ frames := 0, cells := 0, slots := 0, locals := 0 } : Room) (fun v' h' L => v' = some (.int r) ∧ L = [] ∧ h' = h0) (T0.setTop (mkF m 171 #[.val (.int q1), .unset] []))
    refine own_st (fun t k => XS.iloadN X0.here hx rfl (hb hby d4_171) rfl k) ?_
    show OGo p e below s ({ frames := 0, cells := 0, slots := 0, locals := 0 } : Room) (fun v' h' L => v' = some (.int r) ∧ L = [] ∧ h' = h0) (T0.setTop (mkF m 172 #[.val (.int q1), .unset] [(.int q1)]))
    refine own_st (X0.ldcInt hx hown (mvT hZ (hw _ (List.mem_of_getElem? (i := 5) rfl))) (g := (mkF m 172 #[.val (.int q1), .unset] [(.int q1)])) rfl (hb hby d4_172)) ?_
    show OGo p e below s ({ frames := 0, cells := 0, slots := 0, locals := 0 } : Room) (fun v' h' L => v' = some (.int r) ∧ L = [] ∧ h' = h0) (T0.setTop (mkF m 174 #[.val (.int q1), .unset] [(.int (65534 : Int32)), (.int q1)]))
    by_cases hc174 : q1 < (65534 : Int32)
    · refine own_st (fun t k => XS.icmpYes X0.here hx rfl (pc0 := 174) (pc' := 183) rfl (hb hby d4_174) rfl (tlt (hc174)).1 (by decide) (by decide) k) ?_
      show OGo p e below s ({ frames := 0, cells := 0, slots := 0, locals := 0 } : Room) (fun v' h' L => v' = some (.int r) ∧ L = [] ∧ h' = h0) (T0.setTop (mkF m 183 #[.val (.int q1), .unset] []))
      exact B183 (hB.trans (by simp [nb4_171, hc174]))
    · refine own_st (fun t k => XS.icmpNo X0.here hx rfl (hb hby d4_174) rfl (flt (hc174)).1 k) ?_
      show OGo p e below s ({ frames := 0, cells := 0, slots := 0, locals := 0 } : Room) (fun v' h' L => v' = some (.int r) ∧ L = [] ∧ h' = h0) (T0.setTop (mkF m 177 #[.val (.int q1), .unset] []))
      refine own_st (fun t k => XS.iloadN X0.here hx rfl (hb hby d4_177) rfl k) ?_
      show OGo p e below s ({ frames := 0, cells := 0, slots := 0, locals := 0 } : Room) (fun v' h' L => v' = some (.int r) ∧ L = [] ∧ h' = h0) (T0.setTop (mkF m 178 #[.val (.int q1), .unset] [(.int q1)]))
      refine own_st (X0.ldcInt hx hown (mvT hZ (hw _ (List.mem_of_getElem? (i := 37) rfl))) (g := (mkF m 178 #[.val (.int q1), .unset] [(.int q1)])) rfl (hb hby d4_178)) ?_
      show OGo p e below s ({ frames := 0, cells := 0, slots := 0, locals := 0 } : Room) (fun v' h' L => v' = some (.int r) ∧ L = [] ∧ h' = h0) (T0.setTop (mkF m 180 #[.val (.int q1), .unset] [(.int (65535 : Int32)), (.int q1)]))
      by_cases hc180 : (65535 : Int32) < q1
      · refine own_st (fun t k => XS.icmpNo X0.here hx rfl (hb hby d4_180) rfl (tlt (hc180)).2.2.2 k) ?_
        show OGo p e below s ({ frames := 0, cells := 0, slots := 0, locals := 0 } : Room) (fun v' h' L => v' = some (.int r) ∧ L = [] ∧ h' = h0) (T0.setTop (mkF m 183 #[.val (.int q1), .unset] []))
        exact B183 (hB.trans (by simp [nb4_171, hc174, hc180]))
      · refine own_st (fun t k => XS.icmpYes X0.here hx rfl (pc0 := 180) (pc' := 189) rfl (hb hby d4_180) rfl (flt (hc180)).2.2.2 (by decide) (by decide) k) ?_
        show OGo p e below s ({ frames := 0, cells := 0, slots := 0, locals := 0 } : Room) (fun v' h' L => v' = some (.int r) ∧ L = [] ∧ h' = h0) (T0.setTop (mkF m 189 #[.val (.int q1), .unset] []))
        exact B189 (hB.trans (by simp [nb4_171, hc174, hc180]))
  have B159 : r = nb4_159 q1 → OGo p e below s ({ frames := 0, cells := 0, slots := 0, locals := 0 } : Room) (fun v' h' L => v' = some (.int r) ∧ L = [] ∧ h' = h0) (T0.setTop (mkF m 159 #[.val (.int q1), .unset] [])) := by
    intro hB
    show OGo p e below s ({ frames := 0, cells := 0, slots := 0, locals := 0 } : Room) (fun v' h' L => v' = some (.int r) ∧ L = [] ∧ h' = h0) (T0.setTop (mkF m 159 #[.val (.int q1), .unset] []))
    refine own_st (fun t k => XS.iloadN X0.here hx rfl (hb hby d4_159) rfl k) ?_
    show OGo p e below s ({ frames := 0, cells := 0, slots := 0, locals := 0 } : Room) (fun v' h' L => v' = some (.int r) ∧ L = [] ∧ h' = h0) (T0.setTop (mkF m 160 #[.val (.int q1), .unset] [(.int q1)]))
    refine own_st (X0.ldcInt hx hown (mvT hZ (hw _ (List.mem_of_getElem? (i := 3) rfl))) (g := (mkF m 160 #[.val (.int q1), .unset] [(.int q1)])) rfl (hb hby d4_160)) ?_
    show OGo p e below s ({ frames := 0, cells := 0, slots := 0, locals := 0 } : Room) (fun v' h' L => v' = some (.int r) ∧ L = [] ∧ h' = h0) (T0.setTop (mkF m 162 #[.val (.int q1), .unset] [(.int (64976 : Int32)), (.int q1)]))
    by_cases hc162 : q1 < (64976 : Int32)
    · refine own_st (fun t k => XS.icmpYes X0.here hx rfl (pc0 := 162) (pc' := 171) rfl (hb hby d4_162) rfl (tlt (hc162)).1 (by decide) (by decide) k) ?_
      show OGo p e below s ({ frames := 0, cells := 0, slots := 0, locals := 0 } : Room) (fun v' h' L => v' = some (.int r) ∧ L = [] ∧ h' = h0) (T0.setTop (mkF m 171 #[.val (.int q1), .unset] []))
      exact B171 (hB.trans (by simp [nb4_159, hc162]))
    · refine own_st (fun t k => XS.icmpNo X0.here hx rfl (hb hby d4_162) rfl (flt (hc162)).1 k) ?_
      show OGo p e below s ({ frames := 0, cells := 0, slots := 0, locals := 0 } : Room) (fun v' h' L => v' = some (.int r) ∧ L = [] ∧ h' = h0) (T0.setTop (mkF m 165 #[.val (.int q1), .unset] []))
      refine own_st (fun t k => XS.iloadN X0.here hx rfl (hb hby d4_165) rfl k) ?_
      show OGo p e below s ({ frames := 0, cells := 0, slots := 0, locals := 0 } : Room) (fun v' h' L => v' = some (.int r) ∧ L = [] ∧ h' = h0) (T0.setTop (mkF m 166 #[.val (.int q1), .unset] [(.int q1)]))
      refine own_st (X0.ldcInt hx hown (mvT hZ (hw _ (List.mem_of_getElem? (i := 36) rfl))) (g := (mkF m 166 #[.val (.int q1), .unset] [(.int q1)])) rfl (hb hby d4_166)) ?_
      show OGo p e below s ({ frames := 0, cells := 0, slots := 0, locals := 0 } : Room) (fun v' h' L => v' = some (.int r) ∧ L = [] ∧ h' = h0) (T0.setTop (mkF m 168 #[.val (.int q1), .unset] [(.int (65007 : Int32)), (.int q1)]))
      by_cases hc168 : (65007 : Int32) < q1
      · refine own_st (fun t k => XS.icmpNo X0.here hx rfl (hb hby d4_168) rfl (tlt (hc168)).2.2.2 k) ?_
        show OGo p e below s ({ frames := 0, cells := 0, slots := 0, locals := 0 } : Room) (fun v' h' L => v' = some (.int r) ∧ L = [] ∧ h' = h0) (T0.setTop (mkF m 171 #[.val (.int q1), .unset] []))
        exact B171 (hB.trans (by simp [nb4_159, hc162, hc168]))
      · refine own_st (fun t k => XS.icmpYes X0.here hx rfl (pc0 := 168) (pc' := 189) rfl (hb hby d4_168) rfl (flt (hc168)).2.2.2 (by decide) (by decide) k) ?_
        show OGo p e below s ({ frames := 0, cells := 0, slots := 0, locals := 0 } : Room) (fun v' h' L => v' = some (.int r) ∧ L = [] ∧ h' = h0) (T0.setTop (mkF m 189 #[.val (.int q1), .unset] []))
        exact B189 (hB.trans (by simp [nb4_159, hc162, hc168]))
  have B147 : r = nb4_147 q1 → OGo p e below s ({ frames := 0, cells := 0, slots := 0, locals := 0 } : Room) (fun v' h' L => v' = some (.int r) ∧ L = [] ∧ h' = h0) (T0.setTop (mkF m 147 #[.val (.int q1), .unset] [])) := by
    intro hB
    show OGo p e below s ({ frames := 0, cells := 0, slots := 0, locals := 0 } : Room) (fun v' h' L => v' = some (.int r) ∧ L = [] ∧ h' = h0) (T0.setTop (mkF m 147 #[.val (.int q1), .unset] []))
    refine own_st (fun t k => XS.iloadN X0.here hx rfl (hb hby d4_147) rfl k) ?_
    show OGo p e below s ({ frames := 0, cells := 0, slots := 0, locals := 0 } : Room) (fun v' h' L => v' = some (.int r) ∧ L = [] ∧ h' = h0) (T0.setTop (mkF m 148 #[.val (.int q1), .unset] [(.int q1)]))
    refine own_st (X0.ldcInt hx hown (mvT hZ (hw _ (List.mem_of_getElem? (i := 1) rfl))) (g := (mkF m 148 #[.val (.int q1), .unset] [(.int q1)])) rfl (hb hby d4_148)) ?_
    show OGo p e below s ({ frames := 0, cells := 0, slots := 0, locals := 0 } : Room) (fun v' h' L => v' = some (.int r) ∧ L = [] ∧ h' = h0) (T0.setTop (mkF m 150 #[.val (.int q1), .unset] [(.int (55296 : Int32)), (.int q1)]))
    by_cases hc150 : q1 < (55296 : Int32)
    · refine own_st (fun t k => XS.icmpYes X0.here hx rfl (pc0 := 150) (pc' := 159) rfl (hb hby d4_150) rfl (tlt (hc150)).1 (by decide) (by decide) k) ?_
      show OGo p e below s ({ frames := 0, cells := 0, slots := 0, locals := 0 } : Room) (fun v' h' L => v' = some (.int r) ∧ L = [] ∧ h' = h0) (T0.setTop (mkF m 159 #[.val (.int q1), .unset] []))
      exact B159 (hB.trans (by simp [nb4_147, hc150]))
    · refine own_st (fun t k => XS.icmpNo X0.here hx rfl (hb hby d4_150) rfl (flt (hc150)).1 k) ?_
      show OGo p e below s ({ frames := 0, cells := 0, slots := 0, locals := 0 } : Room) (fun v' h' L => v' = some (.int r) ∧ L = [] ∧ h' = h0) (T0.setTop (mkF m 153 #[.val (.int q1), .unset] []))
      refine own_st (fun t k => XS.iloadN X0.here hx rfl (hb hby d4_153) rfl k) ?_
      show OGo p e below s ({ frames := 0, cells := 0, slots := 0, locals := 0 } : Room) (fun v' h' L => v' = some (.int r) ∧ L = [] ∧ h' = h0) (T0.setTop (mkF m 154 #[.val (.int q1), .unset] [(.int q1)]))
      refine own_st (X0.ldcInt hx hown (mvT hZ (hw _ (List.mem_of_getElem? (i := 35) rfl))) (g := (mkF m 154 #[.val (.int q1), .unset] [(.int q1)])) rfl (hb hby d4_154)) ?_
      show OGo p e below s ({ frames := 0, cells := 0, slots := 0, locals := 0 } : Room) (fun v' h' L => v' = some (.int r) ∧ L = [] ∧ h' = h0) (T0.setTop (mkF m 156 #[.val (.int q1), .unset] [(.int (63743 : Int32)), (.int q1)]))
      by_cases hc156 : (63743 : Int32) < q1
      · refine own_st (fun t k => XS.icmpNo X0.here hx rfl (hb hby d4_156) rfl (tlt (hc156)).2.2.2 k) ?_
        show OGo p e below s ({ frames := 0, cells := 0, slots := 0, locals := 0 } : Room) (fun v' h' L => v' = some (.int r) ∧ L = [] ∧ h' = h0) (T0.setTop (mkF m 159 #[.val (.int q1), .unset] []))
        exact B159 (hB.trans (by simp [nb4_147, hc150, hc156]))
      · refine own_st (fun t k => XS.icmpYes X0.here hx rfl (pc0 := 156) (pc' := 189) rfl (hb hby d4_156) rfl (flt (hc156)).2.2.2 (by decide) (by decide) k) ?_
        show OGo p e below s ({ frames := 0, cells := 0, slots := 0, locals := 0 } : Room) (fun v' h' L => v' = some (.int r) ∧ L = [] ∧ h' = h0) (T0.setTop (mkF m 189 #[.val (.int q1), .unset] []))
        exact B189 (hB.trans (by simp [nb4_147, hc150, hc156]))
  have B133 : r = nb4_133 q1 → OGo p e below s ({ frames := 0, cells := 0, slots := 0, locals := 0 } : Room) (fun v' h' L => v' = some (.int r) ∧ L = [] ∧ h' = h0) (T0.setTop (mkF m 133 #[.val (.int q1), .unset] [])) := by
    intro hB
    show OGo p e below s ({ frames := 0, cells := 0, slots := 0, locals := 0 } : Room) (fun v' h' L => v' = some (.int r) ∧ L = [] ∧ h' = h0) (T0.setTop (mkF m 133 #[.val (.int q1), .unset] []))
    refine own_st (fun t k => XS.iloadN X0.here hx rfl (hb hby d4_133) rfl k) ?_
    show OGo p e below s ({ frames := 0, cells := 0, slots := 0, locals := 0 } : Room) (fun v' h' L => v' = some (.int r) ∧ L = [] ∧ h' = h0) (T0.setTop (mkF m 134 #[.val (.int q1), .unset] [(.int q1)]))
    refine own_st (fun t k => XS.sipush X0.here hx rfl (hb hby d4_134) k) ?_
    show OGo p e below s ({ frames := 0, cells := 0, slots := 0, locals := 0 } : Room) (fun v' h' L => v' = some (.int r) ∧ L = [] ∧ h' = h0) (T0.setTop (mkF m 137 #[.val (.int q1), .unset] [(.int (12272 : Int32)), (.int q1)]))
    by_cases hc137 : q1 < (12272 : Int32)
    · refine own_st (fun t k => XS.icmpYes X0.here hx rfl (pc0 := 137) (pc' := 147) rfl (hb hby d4_137) rfl (tlt (hc137)).1 (by decide) (by decide) k) ?_
      show OGo p e below s ({ frames := 0, cells := 0, slots := 0, locals := 0 } : Room) (fun v' h' L => v' = some (.int r) ∧ L = [] ∧ h' = h0) (T0.setTop (mkF m 147 #[.val (.int q1), .unset] []))
      exact B147 (hB.trans (by simp [nb4_133, hc137]))
    · refine own_st (fun t k => XS.icmpNo X0.here hx rfl (hb hby d4_137) rfl (flt (hc137)).1 k) ?_
      show OGo p e below s ({ frames := 0, cells := 0, slots := 0, locals := 0 } : Room) (fun v' h' L => v' = some (.int r) ∧ L = [] ∧ h' = h0) (T0.setTop (mkF m 140 #[.val (.int q1), .unset] []))
      refine own_st (fun t k => XS.iloadN X0.here hx rfl (hb hby d4_140) rfl k) ?_
      show OGo p e below s ({ frames := 0, cells := 0, slots := 0, locals := 0 } : Room) (fun v' h' L => v' = some (.int r) ∧ L = [] ∧ h' = h0) (T0.setTop (mkF m 141 #[.val (.int q1), .unset] [(.int q1)]))
      refine own_st (fun t k => XS.sipush X0.here hx rfl (hb hby d4_141) k) ?_
      show OGo p e below s ({ frames := 0, cells := 0, slots := 0, locals := 0 } : Room) (fun v' h' L => v' = some (.int r) ∧ L = [] ∧ h' = h0) (T0.setTop (mkF m 144 #[.val (.int q1), .unset] [(.int (12288 : Int32)), (.int q1)]))
      by_cases hc144 : (12288 : Int32) < q1
      · refine own_st (fun t k => XS.icmpNo X0.here hx rfl (hb hby d4_144) rfl (tlt (hc144)).2.2.2 k) ?_
        show OGo p e below s ({ frames := 0, cells := 0, slots := 0, locals := 0 } : Room) (fun v' h' L => v' = some (.int r) ∧ L = [] ∧ h' = h0) (T0.setTop (mkF m 147 #[.val (.int q1), .unset] []))
        exact B147 (hB.trans (by simp [nb4_133, hc137, hc144]))
      · refine own_st (fun t k => XS.icmpYes X0.here hx rfl (pc0 := 144) (pc' := 189) rfl (hb hby d4_144) rfl (flt (hc144)).2.2.2 (by decide) (by decide) k) ?_
        show OGo p e below s ({ frames := 0, cells := 0, slots := 0, locals := 0 } : Room) (fun v' h' L => v' = some (.int r) ∧ L = [] ∧ h' = h0) (T0.setTop (mkF m 189 #[.val (.int q1), .unset] []))
        exact B189 (hB.trans (by simp [nb4_133, hc137, hc144]))
  have B119 : r = nb4_119 q1 → OGo p e below s ({ frames := 0, cells := 0, slots := 0, locals := 0 } : Room) (fun v' h' L => v' = some (.int r) ∧ L = [] ∧ h' = h0) (T0.setTop (mkF m 119 #[.val (.int q1), .unset] [])) := by
    intro hB
    show OGo p e below s ({ frames := 0, cells := 0, slots := 0, locals := 0 } : Room) (fun v' h' L => v' = some (.int r) ∧ L = [] ∧ h' = h0) (T0.setTop (mkF m 119 #[.val (.int q1), .unset] []))
    refine own_st (fun t k => XS.iloadN X0.here hx rfl (hb hby d4_119) rfl k) ?_
    show OGo p e below s ({ frames := 0, cells := 0, slots := 0, locals := 0 } : Room) (fun v' h' L => v' = some (.int r) ∧ L = [] ∧ h' = h0) (T0.setTop (mkF m 120 #[.val (.int q1), .unset] [(.int q1)]))
    refine own_st (fun t k => XS.sipush X0.here hx rfl (hb hby d4_120) k) ?_
    show OGo p e below s ({ frames := 0, cells := 0, slots := 0, locals := 0 } : Room) (fun v' h' L => v' = some (.int r) ∧ L = [] ∧ h' = h0) (T0.setTop (mkF m 123 #[.val (.int q1), .unset] [(.int (8592 : Int32)), (.int q1)]))
    by_cases hc123 : q1 < (8592 : Int32)
    · refine own_st (fun t k => XS.icmpYes X0.here hx rfl (pc0 := 123) (pc' := 133) rfl (hb hby d4_123) rfl (tlt (hc123)).1 (by decide) (by decide) k) ?_
      show OGo p e below s ({ frames := 0, cells := 0, slots := 0, locals := 0 } : Room) (fun v' h' L => v' = some (.int r) ∧ L = [] ∧ h' = h0) (T0.setTop (mkF m 133 #[.val (.int q1), .unset] []))
      exact B133 (hB.trans (by simp [nb4_119, hc123]))
    · refine own_st (fun t k => XS.icmpNo X0.here hx rfl (hb hby d4_123) rfl (flt (hc123)).1 k) ?_
      show OGo p e below s ({ frames := 0, cells := 0, slots := 0, locals := 0 } : Room) (fun v' h' L => v' = some (.int r) ∧ L = [] ∧ h' = h0) (T0.setTop (mkF m 126 #[.val (.int q1), .unset] []))
      refine own_st (fun t k => XS.iloadN X0.here hx rfl (hb hby d4_126) rfl k) ?_
      show OGo p e below s ({ frames := 0, cells := 0, slots := 0, locals := 0 } : Room) (fun v' h' L => v' = some (.int r) ∧ L = [] ∧ h' = h0) (T0.setTop (mkF m 127 #[.val (.int q1), .unset] [(.int q1)]))
      refine own_st (fun t k => XS.sipush X0.here hx rfl (hb hby d4_127) k) ?_
      show OGo p e below s ({ frames := 0, cells := 0, slots := 0, locals := 0 } : Room) (fun v' h' L => v' = some (.int r) ∧ L = [] ∧ h' = h0) (T0.setTop (mkF m 130 #[.val (.int q1), .unset] [(.int (11263 : Int32)), (.int q1)]))
      by_cases hc130 : (11263 : Int32) < q1
      · refine own_st (fun t k => XS.icmpNo X0.here hx rfl (hb hby d4_130) rfl (tlt (hc130)).2.2.2 k) ?_
        show OGo p e below s ({ frames := 0, cells := 0, slots := 0, locals := 0 } : Room) (fun v' h' L => v' = some (.int r) ∧ L = [] ∧ h' = h0) (T0.setTop (mkF m 133 #[.val (.int q1), .unset] []))
        exact B133 (hB.trans (by simp [nb4_119, hc123, hc130]))
      · refine own_st (fun t k => XS.icmpYes X0.here hx rfl (pc0 := 130) (pc' := 189) rfl (hb hby d4_130) rfl (flt (hc130)).2.2.2 (by decide) (by decide) k) ?_
        show OGo p e below s ({ frames := 0, cells := 0, slots := 0, locals := 0 } : Room) (fun v' h' L => v' = some (.int r) ∧ L = [] ∧ h' = h0) (T0.setTop (mkF m 189 #[.val (.int q1), .unset] []))
        exact B189 (hB.trans (by simp [nb4_119, hc123, hc130]))
  have B105 : r = nb4_105 q1 → OGo p e below s ({ frames := 0, cells := 0, slots := 0, locals := 0 } : Room) (fun v' h' L => v' = some (.int r) ∧ L = [] ∧ h' = h0) (T0.setTop (mkF m 105 #[.val (.int q1), .unset] [])) := by
    intro hB
    show OGo p e below s ({ frames := 0, cells := 0, slots := 0, locals := 0 } : Room) (fun v' h' L => v' = some (.int r) ∧ L = [] ∧ h' = h0) (T0.setTop (mkF m 105 #[.val (.int q1), .unset] []))
    refine own_st (fun t k => XS.iloadN X0.here hx rfl (hb hby d4_105) rfl k) ?_
    show OGo p e below s ({ frames := 0, cells := 0, slots := 0, locals := 0 } : Room) (fun v' h' L => v' = some (.int r) ∧ L = [] ∧ h' = h0) (T0.setTop (mkF m 106 #[.val (.int q1), .unset] [(.int q1)]))
    refine own_st (fun t k => XS.sipush X0.here hx rfl (hb hby d4_106) k) ?_
    show OGo p e below s ({ frames := 0, cells := 0, slots := 0, locals := 0 } : Room) (fun v' h' L => v' = some (.int r) ∧ L = [] ∧ h' = h0) (T0.setTop (mkF m 109 #[.val (.int q1), .unset] [(.int (8206 : Int32)), (.int q1)]))
    by_cases hc109 : q1 < (8206 : Int32)
    · refine own_st (fun t k => XS.icmpYes X0.here hx rfl (pc0 := 109) (pc' := 119) rfl (hb hby d4_109) rfl (tlt (hc109)).1 (by decide) (by decide) k) ?_
      show OGo p e below s ({ frames := 0, cells := 0, slots := 0, locals := 0 } : Room) (fun v' h' L => v' = some (.int r) ∧ L = [] ∧ h' = h0) (T0.setTop (mkF m 119 #[.val (.int q1), .unset] []))
      exact B119 (hB.trans (by simp [nb4_105, hc109]))
    · refine own_st (fun t k => XS.icmpNo X0.here hx rfl (hb hby d4_109) rfl (flt (hc109)).1 k) ?_
      show OGo p e below s ({ frames := 0, cells := 0, slots := 0, locals := 0 } : Room) (fun v' h' L => v' = some (.int r) ∧ L = [] ∧ h' = h0) (T0.setTop (mkF m 112 #[.val (.int q1), .unset] []))
      refine own_st (fun t k => XS.iloadN X0.here hx rfl (hb hby d4_112) rfl k) ?_
      show OGo p e below s ({ frames := 0, cells := 0, slots := 0, locals := 0 } : Room) (fun v' h' L => v' = some (.int r) ∧ L = [] ∧ h' = h0) (T0.setTop (mkF m 113 #[.val (.int q1), .unset] [(.int q1)]))
      refine own_st (fun t k => XS.sipush X0.here hx rfl (hb hby d4_113) k) ?_
      show OGo p e below s ({ frames := 0, cells := 0, slots := 0, locals := 0 } : Room) (fun v' h' L => v' = some (.int r) ∧ L = [] ∧ h' = h0) (T0.setTop (mkF m 116 #[.val (.int q1), .unset] [(.int (8303 : Int32)), (.int q1)]))
      by_cases hc116 : (8303 : Int32) < q1
      · refine own_st (fun t k => XS.icmpNo X0.here hx rfl (hb hby d4_116) rfl (tlt (hc116)).2.2.2 k) ?_
        show OGo p e below s ({ frames := 0, cells := 0, slots := 0, locals := 0 } : Room) (fun v' h' L => v' = some (.int r) ∧ L = [] ∧ h' = h0) (T0.setTop (mkF m 119 #[.val (.int q1), .unset] []))
        exact B119 (hB.trans (by simp [nb4_105, hc109, hc116]))
      · refine own_st (fun t k => XS.icmpYes X0.here hx rfl (pc0 := 116) (pc' := 189) rfl (hb hby d4_116) rfl (flt (hc116)).2.2.2 (by decide) (by decide) k) ?_
        show OGo p e below s ({ frames := 0, cells := 0, slots := 0, locals := 0 } : Room) (fun v' h' L => v' = some (.int r) ∧ L = [] ∧ h' = h0) (T0.setTop (mkF m 189 #[.val (.int q1), .unset] []))
        exact B189 (hB.trans (by simp [nb4_105, hc109, hc116]))
  have B84 : r = nb4_84 q1 → OGo p e below s ({ frames := 0, cells := 0, slots := 0, locals := 0 } : Room) (fun v' h' L => v' = some (.int r) ∧ L = [] ∧ h' = h0) (T0.setTop (mkF m 84 #[.val (.int q1), .unset] [])) := by
    intro hB
    show OGo p e below s ({ frames := 0, cells := 0, slots := 0, locals := 0 } : Room) (fun v' h' L => v' = some (.int r) ∧ L = [] ∧ h' = h0) (T0.setTop (mkF m 84 #[.val (.int q1), .unset] []))
    refine own_st (fun t k => XS.iloadN X0.here hx rfl (hb hby d4_84) rfl k) ?_
    show OGo p e below s ({ frames := 0, cells := 0, slots := 0, locals := 0 } : Room) (fun v' h' L => v' = some (.int r) ∧ L = [] ∧ h' = h0) (T0.setTop (mkF m 85 #[.val (.int q1), .unset] [(.int q1)]))
    refine own_st (fun t k => XS.sipush X0.here hx rfl (hb hby d4_85) k) ?_
    show OGo p e below s ({ frames := 0, cells := 0, slots := 0, locals := 0 } : Room) (fun v' h' L => v' = some (.int r) ∧ L = [] ∧ h' = h0) (T0.setTop (mkF m 88 #[.val (.int q1), .unset] [(.int (894 : Int32)), (.int q1)]))
    by_cases hc88 : q1 = (894 : Int32)
    · refine own_st (fun t k => XS.icmpYes X0.here hx rfl (pc0 := 88) (pc' := 189) rfl (hb hby d4_88) rfl (teq (hc88)).1 (by decide) (by decide) k) ?_
      show OGo p e below s ({ frames := 0, cells := 0, slots := 0, locals := 0 } : Room) (fun v' h' L => v' = some (.int r) ∧ L = [] ∧ h' = h0) (T0.setTop (mkF m 189 #[.val (.int q1), .unset] []))
      exact B189 (hB.trans (by simp [nb4_84, hc88]))
    · refine own_st (fun t k => XS.icmpNo X0.here hx rfl (hb hby d4_88) rfl (feq (hc88)).1 k) ?_
      show OGo p e below s ({ frames := 0, cells := 0, slots := 0, locals := 0 } : Room) (fun v' h' L => v' = some (.int r) ∧ L = [] ∧ h' = h0) (T0.setTop (mkF m 91 #[.val (.int q1), .unset] []))
      refine own_st (fun t k => XS.iloadN X0.here hx rfl (hb hby d4_91) rfl k) ?_
      show OGo p e below s ({ frames := 0, cells := 0, slots := 0, locals := 0 } : Room) (fun v' h' L => v' = some (.int r) ∧ L = [] ∧ h' = h0) (T0.setTop (mkF m 92 #[.val (.int q1), .unset] [(.int q1)]))
      refine own_st (fun t k => XS.sipush X0.here hx rfl (hb hby d4_92) k) ?_
      show OGo p e below s ({ frames := 0, cells := 0, slots := 0, locals := 0 } : Room) (fun v' h' L => v' = some (.int r) ∧ L = [] ∧ h' = h0) (T0.setTop (mkF m 95 #[.val (.int q1), .unset] [(.int (8192 : Int32)), (.int q1)]))
      by_cases hc95 : q1 < (8192 : Int32)
      · refine own_st (fun t k => XS.icmpYes X0.here hx rfl (pc0 := 95) (pc' := 105) rfl (hb hby d4_95) rfl (tlt (hc95)).1 (by decide) (by decide) k) ?_
        show OGo p e below s ({ frames := 0, cells := 0, slots := 0, locals := 0 } : Room) (fun v' h' L => v' = some (.int r) ∧ L = [] ∧ h' = h0) (T0.setTop (mkF m 105 #[.val (.int q1), .unset] []))
        exact B105 (hB.trans (by simp [nb4_84, hc88, hc95]))
      · refine own_st (fun t k => XS.icmpNo X0.here hx rfl (hb hby d4_95) rfl (flt (hc95)).1 k) ?_
        show OGo p e below s ({ frames := 0, cells := 0, slots := 0, locals := 0 } : Room) (fun v' h' L => v' = some (.int r) ∧ L = [] ∧ h' = h0) (T0.setTop (mkF m 98 #[.val (.int q1), .unset] []))
        refine own_st (fun t k => XS.iloadN X0.here hx rfl (hb hby d4_98) rfl k) ?_
        show OGo p e below s ({ frames := 0, cells := 0, slots := 0, locals := 0 } : Room) (fun v' h' L => v' = some (.int r) ∧ L = [] ∧ h' = h0) (T0.setTop (mkF m 99 #[.val (.int q1), .unset] [(.int q1)]))
        refine own_st (fun t k => XS.sipush X0.here hx rfl (hb hby d4_99) k) ?_
        show OGo p e below s ({ frames := 0, cells := 0, slots := 0, locals := 0 } : Room) (fun v' h' L => v' = some (.int r) ∧ L = [] ∧ h' = h0) (T0.setTop (mkF m 102 #[.val (.int q1), .unset] [(.int (8203 : Int32)), (.int q1)]))
        by_cases hc102 : (8203 : Int32) < q1
        · refine own_st (fun t k => XS.icmpNo X0.here hx rfl (hb hby d4_102) rfl (tlt (hc102)).2.2.2 k) ?_
          show OGo p e below s ({ frames := 0, cells := 0, slots := 0, locals := 0 } : Room) (fun v' h' L => v' = some (.int r) ∧ L = [] ∧ h' = h0) (T0.setTop (mkF m 105 #[.val (.int q1), .unset] []))
          exact B105 (hB.trans (by simp [nb4_84, hc88, hc95, hc102]))
        · refine own_st (fun t k => XS.icmpYes X0.here hx rfl (pc0 := 102) (pc' := 189) rfl (hb hby d4_102) rfl (flt (hc102)).2.2.2 (by decide) (by decide) k) ?_
          show OGo p e below s ({ frames := 0, cells := 0, slots := 0, locals := 0 } : Room) (fun v' h' L => v' = some (.int r) ∧ L = [] ∧ h' = h0) (T0.setTop (mkF m 189 #[.val (.int q1), .unset] []))
          exact B189 (hB.trans (by simp [nb4_84, hc88, hc95, hc102]))
  have B49 : r = nb4_49 q1 → OGo p e below s ({ frames := 0, cells := 0, slots := 0, locals := 0 } : Room) (fun v' h' L => v' = some (.int r) ∧ L = [] ∧ h' = h0) (T0.setTop (mkF m 49 #[.val (.int q1), .unset] [])) := by
    intro hB
    show OGo p e below s ({ frames := 0, cells := 0, slots := 0, locals := 0 } : Room) (fun v' h' L => v' = some (.int r) ∧ L = [] ∧ h' = h0) (T0.setTop (mkF m 49 #[.val (.int q1), .unset] []))
    refine own_st (fun t k => XS.iloadN X0.here hx rfl (hb hby d4_49) rfl k) ?_
    show OGo p e below s ({ frames := 0, cells := 0, slots := 0, locals := 0 } : Room) (fun v' h' L => v' = some (.int r) ∧ L = [] ∧ h' = h0) (T0.setTop (mkF m 50 #[.val (.int q1), .unset] [(.int q1)]))
    refine own_st (fun t k => XS.sipush X0.here hx rfl (hb hby d4_50) k) ?_
    show OGo p e below s ({ frames := 0, cells := 0, slots := 0, locals := 0 } : Room) (fun v' h' L => v' = some (.int r) ∧ L = [] ∧ h' = h0) (T0.setTop (mkF m 53 #[.val (.int q1), .unset] [(.int (191 : Int32)), (.int q1)]))
    by_cases hc53 : (191 : Int32) < q1
    · refine own_st (fun t k => XS.icmpNo X0.here hx rfl (hb hby d4_53) rfl (tlt (hc53)).2.2.2 k) ?_
      show OGo p e below s ({ frames := 0, cells := 0, slots := 0, locals := 0 } : Room) (fun v' h' L => v' = some (.int r) ∧ L = [] ∧ h' = h0) (T0.setTop (mkF m 56 #[.val (.int q1), .unset] []))
      refine own_st (fun t k => XS.iloadN X0.here hx rfl (hb hby d4_56) rfl k) ?_
      show OGo p e below s ({ frames := 0, cells := 0, slots := 0, locals := 0 } : Room) (fun v' h' L => v' = some (.int r) ∧ L = [] ∧ h' = h0) (T0.setTop (mkF m 57 #[.val (.int q1), .unset] [(.int q1)]))
      refine own_st (fun t k => XS.sipush X0.here hx rfl (hb hby d4_57) k) ?_
      show OGo p e below s ({ frames := 0, cells := 0, slots := 0, locals := 0 } : Room) (fun v' h' L => v' = some (.int r) ∧ L = [] ∧ h' = h0) (T0.setTop (mkF m 60 #[.val (.int q1), .unset] [(.int (215 : Int32)), (.int q1)]))
      by_cases hc60 : q1 = (215 : Int32)
      · refine own_st (fun t k => XS.icmpYes X0.here hx rfl (pc0 := 60) (pc' := 189) rfl (hb hby d4_60) rfl (teq (hc60)).1 (by decide) (by decide) k) ?_
        show OGo p e below s ({ frames := 0, cells := 0, slots := 0, locals := 0 } : Room) (fun v' h' L => v' = some (.int r) ∧ L = [] ∧ h' = h0) (T0.setTop (mkF m 189 #[.val (.int q1), .unset] []))
        exact B189 (hB.trans (by simp [nb4_49, hc53, hc60]))
      · refine own_st (fun t k => XS.icmpNo X0.here hx rfl (hb hby d4_60) rfl (feq (hc60)).1 k) ?_
        show OGo p e below s ({ frames := 0, cells := 0, slots := 0, locals := 0 } : Room) (fun v' h' L => v' = some (.int r) ∧ L = [] ∧ h' = h0) (T0.setTop (mkF m 63 #[.val (.int q1), .unset] []))
        refine own_st (fun t k => XS.iloadN X0.here hx rfl (hb hby d4_63) rfl k) ?_
        show OGo p e below s ({ frames := 0, cells := 0, slots := 0, locals := 0 } : Room) (fun v' h' L => v' = some (.int r) ∧ L = [] ∧ h' = h0) (T0.setTop (mkF m 64 #[.val (.int q1), .unset] [(.int q1)]))
        refine own_st (fun t k => XS.sipush X0.here hx rfl (hb hby d4_64) k) ?_
        show OGo p e below s ({ frames := 0, cells := 0, slots := 0, locals := 0 } : Room) (fun v' h' L => v' = some (.int r) ∧ L = [] ∧ h' = h0) (T0.setTop (mkF m 67 #[.val (.int q1), .unset] [(.int (247 : Int32)), (.int q1)]))
        by_cases hc67 : q1 = (247 : Int32)
        · refine own_st (fun t k => XS.icmpYes X0.here hx rfl (pc0 := 67) (pc' := 189) rfl (hb hby d4_67) rfl (teq (hc67)).1 (by decide) (by decide) k) ?_
          show OGo p e below s ({ frames := 0, cells := 0, slots := 0, locals := 0 } : Room) (fun v' h' L => v' = some (.int r) ∧ L = [] ∧ h' = h0) (T0.setTop (mkF m 189 #[.val (.int q1), .unset] []))
          exact B189 (hB.trans (by simp [nb4_49, hc53, hc60, hc67]))
        · refine own_st (fun t k => XS.icmpNo X0.here hx rfl (hb hby d4_67) rfl (feq (hc67)).1 k) ?_
          show OGo p e below s ({ frames := 0, cells := 0, slots := 0, locals := 0 } : Room) (fun v' h' L => v' = some (.int r) ∧ L = [] ∧ h' = h0) (T0.setTop (mkF m 70 #[.val (.int q1), .unset] []))
          refine own_st (fun t k => XS.iloadN X0.here hx rfl (hb hby d4_70) rfl k) ?_
          show OGo p e below s ({ frames := 0, cells := 0, slots := 0, locals := 0 } : Room) (fun v' h' L => v' = some (.int r) ∧ L = [] ∧ h' = h0) (T0.setTop (mkF m 71 #[.val (.int q1), .unset] [(.int q1)]))
          refine own_st (fun t k => XS.sipush X0.here hx rfl (hb hby d4_71) k) ?_
          show OGo p e below s ({ frames := 0, cells := 0, slots := 0, locals := 0 } : Room) (fun v' h' L => v' = some (.int r) ∧ L = [] ∧ h' = h0) (T0.setTop (mkF m 74 #[.val (.int q1), .unset] [(.int (768 : Int32)), (.int q1)]))
          by_cases hc74 : q1 < (768 : Int32)
          · refine own_st (fun t k => XS.icmpYes X0.here hx rfl (pc0 := 74) (pc' := 84) rfl (hb hby d4_74) rfl (tlt (hc74)).1 (by decide) (by decide) k) ?_
            show OGo p e below s ({ frames := 0, cells := 0, slots := 0, locals := 0 } : Room) (fun v' h' L => v' = some (.int r) ∧ L = [] ∧ h' = h0) (T0.setTop (mkF m 84 #[.val (.int q1), .unset] []))
            exact B84 (hB.trans (by simp [nb4_49, hc53, hc60, hc67, hc74]))
          · refine own_st (fun t k => XS.icmpNo X0.here hx rfl (hb hby d4_74) rfl (flt (hc74)).1 k) ?_
            show OGo p e below s ({ frames := 0, cells := 0, slots := 0, locals := 0 } : Room) (fun v' h' L => v' = some (.int r) ∧ L = [] ∧ h' = h0) (T0.setTop (mkF m 77 #[.val (.int q1), .unset] []))
            refine own_st (fun t k => XS.iloadN X0.here hx rfl (hb hby d4_77) rfl k) ?_
            show OGo p e below s ({ frames := 0, cells := 0, slots := 0, locals := 0 } : Room) (fun v' h' L => v' = some (.int r) ∧ L = [] ∧ h' = h0) (T0.setTop (mkF m 78 #[.val (.int q1), .unset] [(.int q1)]))
            refine own_st (fun t k => XS.sipush X0.here hx rfl (hb hby d4_78) k) ?_
            show OGo p e below s ({ frames := 0, cells := 0, slots := 0, locals := 0 } : Room) (fun v' h' L => v' = some (.int r) ∧ L = [] ∧ h' = h0) (T0.setTop (mkF m 81 #[.val (.int q1), .unset] [(.int (879 : Int32)), (.int q1)]))
            by_cases hc81 : (879 : Int32) < q1
            · refine own_st (fun t k => XS.icmpNo X0.here hx rfl (hb hby d4_81) rfl (tlt (hc81)).2.2.2 k) ?_
              show OGo p e below s ({ frames := 0, cells := 0, slots := 0, locals := 0 } : Room) (fun v' h' L => v' = some (.int r) ∧ L = [] ∧ h' = h0) (T0.setTop (mkF m 84 #[.val (.int q1), .unset] []))
              exact B84 (hB.trans (by simp [nb4_49, hc53, hc60, hc67, hc74, hc81]))
            · refine own_st (fun t k => XS.icmpYes X0.here hx rfl (pc0 := 81) (pc' := 189) rfl (hb hby d4_81) rfl (flt (hc81)).2.2.2 (by decide) (by decide) k) ?_
              show OGo p e below s ({ frames := 0, cells := 0, slots := 0, locals := 0 } : Room) (fun v' h' L => v' = some (.int r) ∧ L = [] ∧ h' = h0) (T0.setTop (mkF m 189 #[.val (.int q1), .unset] []))
              exact B189 (hB.trans (by simp [nb4_49, hc53, hc60, hc67, hc74, hc81]))
    · refine own_st (fun t k => XS.icmpYes X0.here hx rfl (pc0 := 53) (pc' := 189) rfl (hb hby d4_53) rfl (flt (hc53)).2.2.2 (by decide) (by decide) k) ?_
      show OGo p e below s ({ frames := 0, cells := 0, slots := 0, locals := 0 } : Room) (fun v' h' L => v' = some (.int r) ∧ L = [] ∧ h' = h0) (T0.setTop (mkF m 189 #[.val (.int q1), .unset] []))
      exact B189 (hB.trans (by simp [nb4_49, hc53]))
  have B47 : r = nb4_47 q1 → OGo p e below s ({ frames := 0, cells := 0, slots := 0, locals := 0 } : Room) (fun v' h' L => v' = some (.int r) ∧ L = [] ∧ h' = h0) (T0.setTop (mkF m 47 #[.val (.int q1), .unset] [])) := by
    intro hB
    show OGo p e below s ({ frames := 0, cells := 0, slots := 0, locals := 0 } : Room) (fun v' h' L => v' = some (.int r) ∧ L = [] ∧ h' = h0) (T0.setTop (mkF m 47 #[.val (.int q1), .unset] []))
    refine own_st (fun t k => XS.iconst X0.here hx rfl (hb hby d4_47) k) ?_
    show OGo p e below s ({ frames := 0, cells := 0, slots := 0, locals := 0 } : Room) (fun v' h' L => v' = some (.int r) ∧ L = [] ∧ h' = h0) (T0.setTop (mkF m 48 #[.val (.int q1), .unset] [(.int (0 : Int32))]))
    exact own_retN X0 hx hlk (t := .boolean) hret (by simp) (hb hby d4_48) (by decide) (by decide) (⟨by rw [own_b0, hB]; simp [nb4_47], rfl, e0⟩)
  have B43 : r = nb4_43 q1 → OGo p e below s ({ frames := 0, cells := 0, slots := 0, locals := 0 } : Room) (fun v' h' L => v' = some (.int r) ∧ L = [] ∧ h' = h0) (T0.setTop (mkF m 43 #[.val (.int q1), .unset] [])) := by
    intro hB
    show OGo p e below s ({ frames := 0, cells := 0, slots := 0, locals := 0 } : Room) (fun v' h' L => v' = some (.int r) ∧ L = [] ∧ h' = h0) (T0.setTop (mkF m 43 #[.val (.int q1), .unset] []))
    refine own_st (fun t k => XS.iconst X0.here hx rfl (hb hby d4_43) k) ?_
    show OGo p e below s ({ frames := 0, cells := 0, slots := 0, locals := 0 } : Room) (fun v' h' L => v' = some (.int r) ∧ L = [] ∧ h' = h0) (T0.setTop (mkF m 44 #[.val (.int q1), .unset] [(.int (1 : Int32))]))
    refine own_st (fun t k => XS.goto X0.here hx rfl (pc0 := 44) (pc' := 48) rfl (hb hby d4_44) (by decide) (by decide) k) ?_
    show OGo p e below s ({ frames := 0, cells := 0, slots := 0, locals := 0 } : Room) (fun v' h' L => v' = some (.int r) ∧ L = [] ∧ h' = h0) (T0.setTop (mkF m 48 #[.val (.int q1), .unset] [(.int (1 : Int32))]))
    exact own_retN X0 hx hlk (t := .boolean) hret (by simp) (hb hby d4_48) (by decide) (by decide) (⟨by rw [own_b1, hB]; simp [nb4_43], rfl, e0⟩)
  have B31 : r = nb4_31 q1 → OGo p e below s ({ frames := 0, cells := 0, slots := 0, locals := 0 } : Room) (fun v' h' L => v' = some (.int r) ∧ L = [] ∧ h' = h0) (T0.setTop (mkF m 31 #[.val (.int q1), .unset] [])) := by
    intro hB
    show OGo p e below s ({ frames := 0, cells := 0, slots := 0, locals := 0 } : Room) (fun v' h' L => v' = some (.int r) ∧ L = [] ∧ h' = h0) (T0.setTop (mkF m 31 #[.val (.int q1), .unset] []))
    refine own_st (fun t k => XS.iloadN X0.here hx rfl (hb hby d4_31) rfl k) ?_
    show OGo p e below s ({ frames := 0, cells := 0, slots := 0, locals := 0 } : Room) (fun v' h' L => v' = some (.int r) ∧ L = [] ∧ h' = h0) (T0.setTop (mkF m 32 #[.val (.int q1), .unset] [(.int q1)]))
    refine own_st (fun t k => XS.bipush X0.here hx rfl (hb hby d4_32) k) ?_
    show OGo p e below s ({ frames := 0, cells := 0, slots := 0, locals := 0 } : Room) (fun v' h' L => v' = some (.int r) ∧ L = [] ∧ h' = h0) (T0.setTop (mkF m 34 #[.val (.int q1), .unset] [(.int (95 : Int32)), (.int q1)]))
    by_cases hc34 : q1 = (95 : Int32)
    · refine own_st (fun t k => XS.icmpYes X0.here hx rfl (pc0 := 34) (pc' := 43) rfl (hb hby d4_34) rfl (teq (hc34)).1 (by decide) (by decide) k) ?_
      show OGo p e below s ({ frames := 0, cells := 0, slots := 0, locals := 0 } : Room) (fun v' h' L => v' = some (.int r) ∧ L = [] ∧ h' = h0) (T0.setTop (mkF m 43 #[.val (.int q1), .unset] []))
      exact B43 (hB.trans (by simp [nb4_31, hc34]))
    · refine own_st (fun t k => XS.icmpNo X0.here hx rfl (hb hby d4_34) rfl (feq (hc34)).1 k) ?_
      show OGo p e below s ({ frames := 0, cells := 0, slots := 0, locals := 0 } : Room) (fun v' h' L => v' = some (.int r) ∧ L = [] ∧ h' = h0) (T0.setTop (mkF m 37 #[.val (.int q1), .unset] []))
      refine own_st (fun t k => XS.iloadN X0.here hx rfl (hb hby d4_37) rfl k) ?_
      show OGo p e below s ({ frames := 0, cells := 0, slots := 0, locals := 0 } : Room) (fun v' h' L => v' = some (.int r) ∧ L = [] ∧ h' = h0) (T0.setTop (mkF m 38 #[.val (.int q1), .unset] [(.int q1)]))
      refine own_st (fun t k => XS.bipush X0.here hx rfl (hb hby d4_38) k) ?_
      show OGo p e below s ({ frames := 0, cells := 0, slots := 0, locals := 0 } : Room) (fun v' h' L => v' = some (.int r) ∧ L = [] ∧ h' = h0) (T0.setTop (mkF m 40 #[.val (.int q1), .unset] [(.int (58 : Int32)), (.int q1)]))
      by_cases hc40 : q1 = (58 : Int32)
      · refine own_st (fun t k => XS.icmpNo X0.here hx rfl (hb hby d4_40) rfl (teq (hc40)).2 k) ?_
        show OGo p e below s ({ frames := 0, cells := 0, slots := 0, locals := 0 } : Room) (fun v' h' L => v' = some (.int r) ∧ L = [] ∧ h' = h0) (T0.setTop (mkF m 43 #[.val (.int q1), .unset] []))
        exact B43 (hB.trans (by simp [nb4_31, hc34, hc40]))
      · refine own_st (fun t k => XS.icmpYes X0.here hx rfl (pc0 := 40) (pc' := 47) rfl (hb hby d4_40) rfl (feq (hc40)).2 (by decide) (by decide) k) ?_
        show OGo p e below s ({ frames := 0, cells := 0, slots := 0, locals := 0 } : Room) (fun v' h' L => v' = some (.int r) ∧ L = [] ∧ h' = h0) (T0.setTop (mkF m 47 #[.val (.int q1), .unset] []))
        exact B47 (hB.trans (by simp [nb4_31, hc34, hc40]))
  have B19 : r = nb4_19 q1 → OGo p e below s ({ frames := 0, cells := 0, slots := 0, locals := 0 } : Room) (fun v' h' L => v' = some (.int r) ∧ L = [] ∧ h' = h0) (T0.setTop (mkF m 19 #[.val (.int q1), .unset] [])) := by
    intro hB
    show OGo p e below s ({ frames := 0, cells := 0, slots := 0, locals := 0 } : Room) (fun v' h' L => v' = some (.int r) ∧ L = [] ∧ h' = h0) (T0.setTop (mkF m 19 #[.val (.int q1), .unset] []))
    refine own_st (fun t k => XS.iloadN X0.here hx rfl (hb hby d4_19) rfl k) ?_
    show OGo p e below s ({ frames := 0, cells := 0, slots := 0, locals := 0 } : Room) (fun v' h' L => v' = some (.int r) ∧ L = [] ∧ h' = h0) (T0.setTop (mkF m 20 #[.val (.int q1), .unset] [(.int q1)]))
    refine own_st (fun t k => XS.bipush X0.here hx rfl (hb hby d4_20) k) ?_
    show OGo p e below s ({ frames := 0, cells := 0, slots := 0, locals := 0 } : Room) (fun v' h' L => v' = some (.int r) ∧ L = [] ∧ h' = h0) (T0.setTop (mkF m 22 #[.val (.int q1), .unset] [(.int (97 : Int32)), (.int q1)]))
    by_cases hc22 : q1 < (97 : Int32)
    · refine own_st (fun t k => XS.icmpYes X0.here hx rfl (pc0 := 22) (pc' := 31) rfl (hb hby d4_22) rfl (tlt (hc22)).1 (by decide) (by decide) k) ?_
      show OGo p e below s ({ frames := 0, cells := 0, slots := 0, locals := 0 } : Room) (fun v' h' L => v' = some (.int r) ∧ L = [] ∧ h' = h0) (T0.setTop (mkF m 31 #[.val (.int q1), .unset] []))
      exact B31 (hB.trans (by simp [nb4_19, hc22]))
    · refine own_st (fun t k => XS.icmpNo X0.here hx rfl (hb hby d4_22) rfl (flt (hc22)).1 k) ?_
      show OGo p e below s ({ frames := 0, cells := 0, slots := 0, locals := 0 } : Room) (fun v' h' L => v' = some (.int r) ∧ L = [] ∧ h' = h0) (T0.setTop (mkF m 25 #[.val (.int q1), .unset] []))
      refine own_st (fun t k => XS.iloadN X0.here hx rfl (hb hby d4_25) rfl k) ?_
      show OGo p e below s ({ frames := 0, cells := 0, slots := 0, locals := 0 } : Room) (fun v' h' L => v' = some (.int r) ∧ L = [] ∧ h' = h0) (T0.setTop (mkF m 26 #[.val (.int q1), .unset] [(.int q1)]))
      refine own_st (fun t k => XS.bipush X0.here hx rfl (hb hby d4_26) k) ?_
      show OGo p e below s ({ frames := 0, cells := 0, slots := 0, locals := 0 } : Room) (fun v' h' L => v' = some (.int r) ∧ L = [] ∧ h' = h0) (T0.setTop (mkF m 28 #[.val (.int q1), .unset] [(.int (122 : Int32)), (.int q1)]))
      by_cases hc28 : (122 : Int32) < q1
      · refine own_st (fun t k => XS.icmpNo X0.here hx rfl (hb hby d4_28) rfl (tlt (hc28)).2.2.2 k) ?_
        show OGo p e below s ({ frames := 0, cells := 0, slots := 0, locals := 0 } : Room) (fun v' h' L => v' = some (.int r) ∧ L = [] ∧ h' = h0) (T0.setTop (mkF m 31 #[.val (.int q1), .unset] []))
        exact B31 (hB.trans (by simp [nb4_19, hc22, hc28]))
      · refine own_st (fun t k => XS.icmpYes X0.here hx rfl (pc0 := 28) (pc' := 43) rfl (hb hby d4_28) rfl (flt (hc28)).2.2.2 (by decide) (by decide) k) ?_
        show OGo p e below s ({ frames := 0, cells := 0, slots := 0, locals := 0 } : Room) (fun v' h' L => v' = some (.int r) ∧ L = [] ∧ h' = h0) (T0.setTop (mkF m 43 #[.val (.int q1), .unset] []))
        exact B43 (hB.trans (by simp [nb4_19, hc22, hc28]))
  have B0 : r = nb4_0 q1 → OGo p e below s ({ frames := 0, cells := 0, slots := 0, locals := 0 } : Room) (fun v' h' L => v' = some (.int r) ∧ L = [] ∧ h' = h0) (T0.setTop (mkF m 0 #[.val (.int q1), .unset] [])) := by
    intro hB
    show OGo p e below s ({ frames := 0, cells := 0, slots := 0, locals := 0 } : Room) (fun v' h' L => v' = some (.int r) ∧ L = [] ∧ h' = h0) (T0.setTop (mkF m 0 #[.val (.int q1), .unset] []))
    refine own_st (fun t k => XS.iloadN X0.here hx rfl (hb hby d4_0) rfl k) ?_
    show OGo p e below s ({ frames := 0, cells := 0, slots := 0, locals := 0 } : Room) (fun v' h' L => v' = some (.int r) ∧ L = [] ∧ h' = h0) (T0.setTop (mkF m 1 #[.val (.int q1), .unset] [(.int q1)]))
    refine own_st (fun t k => XS.sipush X0.here hx rfl (hb hby d4_1) k) ?_
    show OGo p e below s ({ frames := 0, cells := 0, slots := 0, locals := 0 } : Room) (fun v' h' L => v' = some (.int r) ∧ L = [] ∧ h' = h0) (T0.setTop (mkF m 4 #[.val (.int q1), .unset] [(.int (128 : Int32)), (.int q1)]))
    by_cases hc4 : q1 < (128 : Int32)
    · refine own_st (fun t k => XS.icmpNo X0.here hx rfl (hb hby d4_4) rfl (tlt (hc4)).2.1 k) ?_
      show OGo p e below s ({ frames := 0, cells := 0, slots := 0, locals := 0 } : Room) (fun v' h' L => v' = some (.int r) ∧ L = [] ∧ h' = h0) (T0.setTop (mkF m 7 #[.val (.int q1), .unset] []))
      refine own_st (fun t k => XS.iloadN X0.here hx rfl (hb hby d4_7) rfl k) ?_
      show OGo p e below s ({ frames := 0, cells := 0, slots := 0, locals := 0 } : Room) (fun v' h' L => v' = some (.int r) ∧ L = [] ∧ h' = h0) (T0.setTop (mkF m 8 #[.val (.int q1), .unset] [(.int q1)]))
      refine own_st (fun t k => XS.bipush X0.here hx rfl (hb hby d4_8) k) ?_
      show OGo p e below s ({ frames := 0, cells := 0, slots := 0, locals := 0 } : Room) (fun v' h' L => v' = some (.int r) ∧ L = [] ∧ h' = h0) (T0.setTop (mkF m 10 #[.val (.int q1), .unset] [(.int (65 : Int32)), (.int q1)]))
      by_cases hc10 : q1 < (65 : Int32)
      · refine own_st (fun t k => XS.icmpYes X0.here hx rfl (pc0 := 10) (pc' := 19) rfl (hb hby d4_10) rfl (tlt (hc10)).1 (by decide) (by decide) k) ?_
        show OGo p e below s ({ frames := 0, cells := 0, slots := 0, locals := 0 } : Room) (fun v' h' L => v' = some (.int r) ∧ L = [] ∧ h' = h0) (T0.setTop (mkF m 19 #[.val (.int q1), .unset] []))
        exact B19 (hB.trans (by simp [nb4_0, hc4, hc10]))
      · refine own_st (fun t k => XS.icmpNo X0.here hx rfl (hb hby d4_10) rfl (flt (hc10)).1 k) ?_
        show OGo p e below s ({ frames := 0, cells := 0, slots := 0, locals := 0 } : Room) (fun v' h' L => v' = some (.int r) ∧ L = [] ∧ h' = h0) (T0.setTop (mkF m 13 #[.val (.int q1), .unset] []))
        refine own_st (fun t k => XS.iloadN X0.here hx rfl (hb hby d4_13) rfl k) ?_
        show OGo p e below s ({ frames := 0, cells := 0, slots := 0, locals := 0 } : Room) (fun v' h' L => v' = some (.int r) ∧ L = [] ∧ h' = h0) (T0.setTop (mkF m 14 #[.val (.int q1), .unset] [(.int q1)]))
        refine own_st (fun t k => XS.bipush X0.here hx rfl (hb hby d4_14) k) ?_
        show OGo p e below s ({ frames := 0, cells := 0, slots := 0, locals := 0 } : Room) (fun v' h' L => v' = some (.int r) ∧ L = [] ∧ h' = h0) (T0.setTop (mkF m 16 #[.val (.int q1), .unset] [(.int (90 : Int32)), (.int q1)]))
        by_cases hc16 : (90 : Int32) < q1
        · refine own_st (fun t k => XS.icmpNo X0.here hx rfl (hb hby d4_16) rfl (tlt (hc16)).2.2.2 k) ?_
          show OGo p e below s ({ frames := 0, cells := 0, slots := 0, locals := 0 } : Room) (fun v' h' L => v' = some (.int r) ∧ L = [] ∧ h' = h0) (T0.setTop (mkF m 19 #[.val (.int q1), .unset] []))
          exact B19 (hB.trans (by simp [nb4_0, hc4, hc10, hc16]))
        · refine own_st (fun t k => XS.icmpYes X0.here hx rfl (pc0 := 16) (pc' := 43) rfl (hb hby d4_16) rfl (flt (hc16)).2.2.2 (by decide) (by decide) k) ?_
          show OGo p e below s ({ frames := 0, cells := 0, slots := 0, locals := 0 } : Room) (fun v' h' L => v' = some (.int r) ∧ L = [] ∧ h' = h0) (T0.setTop (mkF m 43 #[.val (.int q1), .unset] []))
          exact B43 (hB.trans (by simp [nb4_0, hc4, hc10, hc16]))
    · refine own_st (fun t k => XS.icmpYes X0.here hx rfl (pc0 := 4) (pc' := 49) rfl (hb hby d4_4) rfl (flt (hc4)).2.1 (by decide) (by decide) k) ?_
      show OGo p e below s ({ frames := 0, cells := 0, slots := 0, locals := 0 } : Room) (fun v' h' L => v' = some (.int r) ∧ L = [] ∧ h' = h0) (T0.setTop (mkF m 49 #[.val (.int q1), .unset] []))
      exact B49 (hB.trans (by simp [nb4_0, hc4]))
  exact B0 hr
theorem own_low : ∀ j : Fin 128, nb3_0 (Int32.ofNat j.1) = nb4_0 (Int32.ofNat j.1) := by decide +kernel
theorem own_leaf0 (q1 : Int32) (h1 : 128 ≤ q1.toInt) (h2 : q1.toInt < 192) : nb3_0 q1 = nb4_0 q1 := by
  have f0 : ¬ (11263 : Int32) < q1 := by rw [Int32.lt_iff_toInt_lt, show (11263 : Int32).toInt = 11263 from by decide]; omega
  have f1 : (122 : Int32) < q1 := by rw [Int32.lt_iff_toInt_lt, show (122 : Int32).toInt = 122 from by decide]; omega
  have f2 : ¬ (12271 : Int32) < q1 := by rw [Int32.lt_iff_toInt_lt, show (12271 : Int32).toInt = 12271 from by decide]; omega
  have f3 : ¬ (12288 : Int32) < q1 := by rw [Int32.lt_iff_toInt_lt, show (12288 : Int32).toInt = 12288 from by decide]; omega
  have f4 : ¬ (191 : Int32) < q1 := by rw [Int32.lt_iff_toInt_lt, show (191 : Int32).toInt = 191 from by decide]; omega
  have f5 : ¬ (214 : Int32) < q1 := by rw [Int32.lt_iff_toInt_lt, show (214 : Int32).toInt = 214 from by decide]; omega
  have f6 : ¬ (246 : Int32) < q1 := by rw [Int32.lt_iff_toInt_lt, show (246 : Int32).toInt = 246 from by decide]; omega
  have f7 : ¬ (55295 : Int32) < q1 := by rw [Int32.lt_iff_toInt_lt, show (55295 : Int32).toInt = 55295 from by decide]; omega
  have f8 : ¬ (63743 : Int32) < q1 := by rw [Int32.lt_iff_toInt_lt, show (63743 : Int32).toInt = 63743 from by decide]; omega
  have f9 : ¬ (64975 : Int32) < q1 := by rw [Int32.lt_iff_toInt_lt, show (64975 : Int32).toInt = 64975 from by decide]; omega
  have f10 : ¬ (65007 : Int32) < q1 := by rw [Int32.lt_iff_toInt_lt, show (65007 : Int32).toInt = 65007 from by decide]; omega
  have f11 : ¬ (65533 : Int32) < q1 := by rw [Int32.lt_iff_toInt_lt, show (65533 : Int32).toInt = 65533 from by decide]; omega
  have f12 : ¬ (65535 : Int32) < q1 := by rw [Int32.lt_iff_toInt_lt, show (65535 : Int32).toInt = 65535 from by decide]; omega
  have f13 : ¬ (767 : Int32) < q1 := by rw [Int32.lt_iff_toInt_lt, show (767 : Int32).toInt = 767 from by decide]; omega
  have f14 : ¬ (8191 : Int32) < q1 := by rw [Int32.lt_iff_toInt_lt, show (8191 : Int32).toInt = 8191 from by decide]; omega
  have f15 : ¬ (8203 : Int32) < q1 := by rw [Int32.lt_iff_toInt_lt, show (8203 : Int32).toInt = 8203 from by decide]; omega
  have f16 : ¬ (8205 : Int32) < q1 := by rw [Int32.lt_iff_toInt_lt, show (8205 : Int32).toInt = 8205 from by decide]; omega
  have f17 : ¬ (8303 : Int32) < q1 := by rw [Int32.lt_iff_toInt_lt, show (8303 : Int32).toInt = 8303 from by decide]; omega
  have f18 : ¬ (8591 : Int32) < q1 := by rw [Int32.lt_iff_toInt_lt, show (8591 : Int32).toInt = 8591 from by decide]; omega
  have f19 : ¬ (879 : Int32) < q1 := by rw [Int32.lt_iff_toInt_lt, show (879 : Int32).toInt = 879 from by decide]; omega
  have f20 : ¬ (893 : Int32) < q1 := by rw [Int32.lt_iff_toInt_lt, show (893 : Int32).toInt = 893 from by decide]; omega
  have f21 : (90 : Int32) < q1 := by rw [Int32.lt_iff_toInt_lt, show (90 : Int32).toInt = 90 from by decide]; omega
  have f22 : ¬ (983039 : Int32) < q1 := by rw [Int32.lt_iff_toInt_lt, show (983039 : Int32).toInt = 983039 from by decide]; omega
  have f23 : q1 < (11264 : Int32) := by rw [Int32.lt_iff_toInt_lt, show (11264 : Int32).toInt = 11264 from by decide]; omega
  have f24 : q1 < (12272 : Int32) := by rw [Int32.lt_iff_toInt_lt, show (12272 : Int32).toInt = 12272 from by decide]; omega
  have f25 : q1 < (12289 : Int32) := by rw [Int32.lt_iff_toInt_lt, show (12289 : Int32).toInt = 12289 from by decide]; omega
  have f26 : ¬ q1 < (128 : Int32) := by rw [Int32.lt_iff_toInt_lt, show (128 : Int32).toInt = 128 from by decide]; omega
  have f27 : q1 < (192 : Int32) := by rw [Int32.lt_iff_toInt_lt, show (192 : Int32).toInt = 192 from by decide]; omega
  have f28 : q1 < (216 : Int32) := by rw [Int32.lt_iff_toInt_lt, show (216 : Int32).toInt = 216 from by decide]; omega
  have f29 : q1 < (248 : Int32) := by rw [Int32.lt_iff_toInt_lt, show (248 : Int32).toInt = 248 from by decide]; omega
  have f30 : q1 < (55296 : Int32) := by rw [Int32.lt_iff_toInt_lt, show (55296 : Int32).toInt = 55296 from by decide]; omega
  have f31 : q1 < (63744 : Int32) := by rw [Int32.lt_iff_toInt_lt, show (63744 : Int32).toInt = 63744 from by decide]; omega
  have f32 : q1 < (64976 : Int32) := by rw [Int32.lt_iff_toInt_lt, show (64976 : Int32).toInt = 64976 from by decide]; omega
  have f33 : ¬ q1 < (65 : Int32) := by rw [Int32.lt_iff_toInt_lt, show (65 : Int32).toInt = 65 from by decide]; omega
  have f34 : q1 < (65008 : Int32) := by rw [Int32.lt_iff_toInt_lt, show (65008 : Int32).toInt = 65008 from by decide]; omega
  have f35 : q1 < (65534 : Int32) := by rw [Int32.lt_iff_toInt_lt, show (65534 : Int32).toInt = 65534 from by decide]; omega
  have f36 : q1 < (65536 : Int32) := by rw [Int32.lt_iff_toInt_lt, show (65536 : Int32).toInt = 65536 from by decide]; omega
  have f37 : q1 < (768 : Int32) := by rw [Int32.lt_iff_toInt_lt, show (768 : Int32).toInt = 768 from by decide]; omega
  have f38 : q1 < (8192 : Int32) := by rw [Int32.lt_iff_toInt_lt, show (8192 : Int32).toInt = 8192 from by decide]; omega
  have f39 : q1 < (8204 : Int32) := by rw [Int32.lt_iff_toInt_lt, show (8204 : Int32).toInt = 8204 from by decide]; omega
  have f40 : q1 < (8206 : Int32) := by rw [Int32.lt_iff_toInt_lt, show (8206 : Int32).toInt = 8206 from by decide]; omega
  have f41 : q1 < (8304 : Int32) := by rw [Int32.lt_iff_toInt_lt, show (8304 : Int32).toInt = 8304 from by decide]; omega
  have f42 : q1 < (8592 : Int32) := by rw [Int32.lt_iff_toInt_lt, show (8592 : Int32).toInt = 8592 from by decide]; omega
  have f43 : q1 < (880 : Int32) := by rw [Int32.lt_iff_toInt_lt, show (880 : Int32).toInt = 880 from by decide]; omega
  have f44 : q1 < (895 : Int32) := by rw [Int32.lt_iff_toInt_lt, show (895 : Int32).toInt = 895 from by decide]; omega
  have f45 : ¬ q1 < (97 : Int32) := by rw [Int32.lt_iff_toInt_lt, show (97 : Int32).toInt = 97 from by decide]; omega
  have f46 : q1 < (983040 : Int32) := by rw [Int32.lt_iff_toInt_lt, show (983040 : Int32).toInt = 983040 from by decide]; omega
  have f47 : ¬ q1 = (215 : Int32) := by intro q; rw [q, show (215 : Int32).toInt = 215 from by decide] at h1 h2; omega
  have f48 : ¬ q1 = (247 : Int32) := by intro q; rw [q, show (247 : Int32).toInt = 247 from by decide] at h1 h2; omega
  have f49 : ¬ q1 = (58 : Int32) := by intro q; rw [q, show (58 : Int32).toInt = 58 from by decide] at h1 h2; omega
  have f50 : ¬ q1 = (894 : Int32) := by intro q; rw [q, show (894 : Int32).toInt = 894 from by decide] at h1 h2; omega
  have f51 : ¬ q1 = (95 : Int32) := by intro q; rw [q, show (95 : Int32).toInt = 95 from by decide] at h1 h2; omega
  simp [nb3_0, nb3_21, nb3_23, nb3_37, nb3_51, nb3_65, nb3_79, nb3_93, nb3_107, nb3_121, nb3_135, nb3_148, nb3_160, nb3_172, nb3_184, nb3_188, nb4_0, nb4_19, nb4_31, nb4_43, nb4_47, nb4_49, nb4_84, nb4_105, nb4_119, nb4_133, nb4_147, nb4_159, nb4_171, nb4_183, nb4_189, nb4_193, nb4_203, f0, f1, f2, f3, f4, f5, f6, f7, f8, f9, f10, f11, f12, f13, f14, f15, f16, f17, f18, f19, f20, f21, f22, f23, f24, f25, f26, f27, f28, f29, f30, f31, f32, f33, f34, f35, f36, f37, f38, f39, f40, f41, f42, f43, f44, f45, f46, f47, f48, f49, f50, f51]
theorem own_leaf1 (q1 : Int32) (h1 : 192 ≤ q1.toInt) (h2 : q1.toInt < 215) : nb3_0 q1 = nb4_0 q1 := by
  have f0 : ¬ (11263 : Int32) < q1 := by rw [Int32.lt_iff_toInt_lt, show (11263 : Int32).toInt = 11263 from by decide]; omega
  have f1 : (122 : Int32) < q1 := by rw [Int32.lt_iff_toInt_lt, show (122 : Int32).toInt = 122 from by decide]; omega
  have f2 : ¬ (12271 : Int32) < q1 := by rw [Int32.lt_iff_toInt_lt, show (12271 : Int32).toInt = 12271 from by decide]; omega
  have f3 : ¬ (12288 : Int32) < q1 := by rw [Int32.lt_iff_toInt_lt, show (12288 : Int32).toInt = 12288 from by decide]; omega
  have f4 : (191 : Int32) < q1 := by rw [Int32.lt_iff_toInt_lt, show (191 : Int32).toInt = 191 from by decide]; omega
  have f5 : ¬ (214 : Int32) < q1 := by rw [Int32.lt_iff_toInt_lt, show (214 : Int32).toInt = 214 from by decide]; omega
  have f6 : ¬ (246 : Int32) < q1 := by rw [Int32.lt_iff_toInt_lt, show (246 : Int32).toInt = 246 from by decide]; omega
  have f7 : ¬ (55295 : Int32) < q1 := by rw [Int32.lt_iff_toInt_lt, show (55295 : Int32).toInt = 55295 from by decide]; omega
  have f8 : ¬ (63743 : Int32) < q1 := by rw [Int32.lt_iff_toInt_lt, show (63743 : Int32).toInt = 63743 from by decide]; omega
  have f9 : ¬ (64975 : Int32) < q1 := by rw [Int32.lt_iff_toInt_lt, show (64975 : Int32).toInt = 64975 from by decide]; omega
  have f10 : ¬ (65007 : Int32) < q1 := by rw [Int32.lt_iff_toInt_lt, show (65007 : Int32).toInt = 65007 from by decide]; omega
  have f11 : ¬ (65533 : Int32) < q1 := by rw [Int32.lt_iff_toInt_lt, show (65533 : Int32).toInt = 65533 from by decide]; omega
  have f12 : ¬ (65535 : Int32) < q1 := by rw [Int32.lt_iff_toInt_lt, show (65535 : Int32).toInt = 65535 from by decide]; omega
  have f13 : ¬ (767 : Int32) < q1 := by rw [Int32.lt_iff_toInt_lt, show (767 : Int32).toInt = 767 from by decide]; omega
  have f14 : ¬ (8191 : Int32) < q1 := by rw [Int32.lt_iff_toInt_lt, show (8191 : Int32).toInt = 8191 from by decide]; omega
  have f15 : ¬ (8203 : Int32) < q1 := by rw [Int32.lt_iff_toInt_lt, show (8203 : Int32).toInt = 8203 from by decide]; omega
  have f16 : ¬ (8205 : Int32) < q1 := by rw [Int32.lt_iff_toInt_lt, show (8205 : Int32).toInt = 8205 from by decide]; omega
  have f17 : ¬ (8303 : Int32) < q1 := by rw [Int32.lt_iff_toInt_lt, show (8303 : Int32).toInt = 8303 from by decide]; omega
  have f18 : ¬ (8591 : Int32) < q1 := by rw [Int32.lt_iff_toInt_lt, show (8591 : Int32).toInt = 8591 from by decide]; omega
  have f19 : ¬ (879 : Int32) < q1 := by rw [Int32.lt_iff_toInt_lt, show (879 : Int32).toInt = 879 from by decide]; omega
  have f20 : ¬ (893 : Int32) < q1 := by rw [Int32.lt_iff_toInt_lt, show (893 : Int32).toInt = 893 from by decide]; omega
  have f21 : (90 : Int32) < q1 := by rw [Int32.lt_iff_toInt_lt, show (90 : Int32).toInt = 90 from by decide]; omega
  have f22 : ¬ (983039 : Int32) < q1 := by rw [Int32.lt_iff_toInt_lt, show (983039 : Int32).toInt = 983039 from by decide]; omega
  have f23 : q1 < (11264 : Int32) := by rw [Int32.lt_iff_toInt_lt, show (11264 : Int32).toInt = 11264 from by decide]; omega
  have f24 : q1 < (12272 : Int32) := by rw [Int32.lt_iff_toInt_lt, show (12272 : Int32).toInt = 12272 from by decide]; omega
  have f25 : q1 < (12289 : Int32) := by rw [Int32.lt_iff_toInt_lt, show (12289 : Int32).toInt = 12289 from by decide]; omega
  have f26 : ¬ q1 < (128 : Int32) := by rw [Int32.lt_iff_toInt_lt, show (128 : Int32).toInt = 128 from by decide]; omega
  have f27 : ¬ q1 < (192 : Int32) := by rw [Int32.lt_iff_toInt_lt, show (192 : Int32).toInt = 192 from by decide]; omega
  have f28 : q1 < (216 : Int32) := by rw [Int32.lt_iff_toInt_lt, show (216 : Int32).toInt = 216 from by decide]; omega
  have f29 : q1 < (248 : Int32) := by rw [Int32.lt_iff_toInt_lt, show (248 : Int32).toInt = 248 from by decide]; omega
  have f30 : q1 < (55296 : Int32) := by rw [Int32.lt_iff_toInt_lt, show (55296 : Int32).toInt = 55296 from by decide]; omega
  have f31 : q1 < (63744 : Int32) := by rw [Int32.lt_iff_toInt_lt, show (63744 : Int32).toInt = 63744 from by decide]; omega
  have f32 : q1 < (64976 : Int32) := by rw [Int32.lt_iff_toInt_lt, show (64976 : Int32).toInt = 64976 from by decide]; omega
  have f33 : ¬ q1 < (65 : Int32) := by rw [Int32.lt_iff_toInt_lt, show (65 : Int32).toInt = 65 from by decide]; omega
  have f34 : q1 < (65008 : Int32) := by rw [Int32.lt_iff_toInt_lt, show (65008 : Int32).toInt = 65008 from by decide]; omega
  have f35 : q1 < (65534 : Int32) := by rw [Int32.lt_iff_toInt_lt, show (65534 : Int32).toInt = 65534 from by decide]; omega
  have f36 : q1 < (65536 : Int32) := by rw [Int32.lt_iff_toInt_lt, show (65536 : Int32).toInt = 65536 from by decide]; omega
  have f37 : q1 < (768 : Int32) := by rw [Int32.lt_iff_toInt_lt, show (768 : Int32).toInt = 768 from by decide]; omega
  have f38 : q1 < (8192 : Int32) := by rw [Int32.lt_iff_toInt_lt, show (8192 : Int32).toInt = 8192 from by decide]; omega
  have f39 : q1 < (8204 : Int32) := by rw [Int32.lt_iff_toInt_lt, show (8204 : Int32).toInt = 8204 from by decide]; omega
  have f40 : q1 < (8206 : Int32) := by rw [Int32.lt_iff_toInt_lt, show (8206 : Int32).toInt = 8206 from by decide]; omega
  have f41 : q1 < (8304 : Int32) := by rw [Int32.lt_iff_toInt_lt, show (8304 : Int32).toInt = 8304 from by decide]; omega
  have f42 : q1 < (8592 : Int32) := by rw [Int32.lt_iff_toInt_lt, show (8592 : Int32).toInt = 8592 from by decide]; omega
  have f43 : q1 < (880 : Int32) := by rw [Int32.lt_iff_toInt_lt, show (880 : Int32).toInt = 880 from by decide]; omega
  have f44 : q1 < (895 : Int32) := by rw [Int32.lt_iff_toInt_lt, show (895 : Int32).toInt = 895 from by decide]; omega
  have f45 : ¬ q1 < (97 : Int32) := by rw [Int32.lt_iff_toInt_lt, show (97 : Int32).toInt = 97 from by decide]; omega
  have f46 : q1 < (983040 : Int32) := by rw [Int32.lt_iff_toInt_lt, show (983040 : Int32).toInt = 983040 from by decide]; omega
  have f47 : ¬ q1 = (215 : Int32) := by intro q; rw [q, show (215 : Int32).toInt = 215 from by decide] at h1 h2; omega
  have f48 : ¬ q1 = (247 : Int32) := by intro q; rw [q, show (247 : Int32).toInt = 247 from by decide] at h1 h2; omega
  have f49 : ¬ q1 = (58 : Int32) := by intro q; rw [q, show (58 : Int32).toInt = 58 from by decide] at h1 h2; omega
  have f50 : ¬ q1 = (894 : Int32) := by intro q; rw [q, show (894 : Int32).toInt = 894 from by decide] at h1 h2; omega
  have f51 : ¬ q1 = (95 : Int32) := by intro q; rw [q, show (95 : Int32).toInt = 95 from by decide] at h1 h2; omega
  simp [nb3_0, nb3_21, nb3_23, nb3_37, nb3_51, nb3_65, nb3_79, nb3_93, nb3_107, nb3_121, nb3_135, nb3_148, nb3_160, nb3_172, nb3_184, nb3_188, nb4_0, nb4_19, nb4_31, nb4_43, nb4_47, nb4_49, nb4_84, nb4_105, nb4_119, nb4_133, nb4_147, nb4_159, nb4_171, nb4_183, nb4_189, nb4_193, nb4_203, f0, f1, f2, f3, f4, f5, f6, f7, f8, f9, f10, f11, f12, f13, f14, f15, f16, f17, f18, f19, f20, f21, f22, f23, f24, f25, f26, f27, f28, f29, f30, f31, f32, f33, f34, f35, f36, f37, f38, f39, f40, f41, f42, f43, f44, f45, f46, f47, f48, f49, f50, f51]
theorem own_leaf2 (q1 : Int32) (h1 : 215 ≤ q1.toInt) (h2 : q1.toInt < 216) : nb3_0 q1 = nb4_0 q1 := by
  have f0 : ¬ (11263 : Int32) < q1 := by rw [Int32.lt_iff_toInt_lt, show (11263 : Int32).toInt = 11263 from by decide]; omega
  have f1 : (122 : Int32) < q1 := by rw [Int32.lt_iff_toInt_lt, show (122 : Int32).toInt = 122 from by decide]; omega
  have f2 : ¬ (12271 : Int32) < q1 := by rw [Int32.lt_iff_toInt_lt, show (12271 : Int32).toInt = 12271 from by decide]; omega
  have f3 : ¬ (12288 : Int32) < q1 := by rw [Int32.lt_iff_toInt_lt, show (12288 : Int32).toInt = 12288 from by decide]; omega
  have f4 : (191 : Int32) < q1 := by rw [Int32.lt_iff_toInt_lt, show (191 : Int32).toInt = 191 from by decide]; omega
  have f5 : (214 : Int32) < q1 := by rw [Int32.lt_iff_toInt_lt, show (214 : Int32).toInt = 214 from by decide]; omega
  have f6 : ¬ (246 : Int32) < q1 := by rw [Int32.lt_iff_toInt_lt, show (246 : Int32).toInt = 246 from by decide]; omega
  have f7 : ¬ (55295 : Int32) < q1 := by rw [Int32.lt_iff_toInt_lt, show (55295 : Int32).toInt = 55295 from by decide]; omega
  have f8 : ¬ (63743 : Int32) < q1 := by rw [Int32.lt_iff_toInt_lt, show (63743 : Int32).toInt = 63743 from by decide]; omega
  have f9 : ¬ (64975 : Int32) < q1 := by rw [Int32.lt_iff_toInt_lt, show (64975 : Int32).toInt = 64975 from by decide]; omega
  have f10 : ¬ (65007 : Int32) < q1 := by rw [Int32.lt_iff_toInt_lt, show (65007 : Int32).toInt = 65007 from by decide]; omega
  have f11 : ¬ (65533 : Int32) < q1 := by rw [Int32.lt_iff_toInt_lt, show (65533 : Int32).toInt = 65533 from by decide]; omega
  have f12 : ¬ (65535 : Int32) < q1 := by rw [Int32.lt_iff_toInt_lt, show (65535 : Int32).toInt = 65535 from by decide]; omega
  have f13 : ¬ (767 : Int32) < q1 := by rw [Int32.lt_iff_toInt_lt, show (767 : Int32).toInt = 767 from by decide]; omega
  have f14 : ¬ (8191 : Int32) < q1 := by rw [Int32.lt_iff_toInt_lt, show (8191 : Int32).toInt = 8191 from by decide]; omega
  have f15 : ¬ (8203 : Int32) < q1 := by rw [Int32.lt_iff_toInt_lt, show (8203 : Int32).toInt = 8203 from by decide]; omega
  have f16 : ¬ (8205 : Int32) < q1 := by rw [Int32.lt_iff_toInt_lt, show (8205 : Int32).toInt = 8205 from by decide]; omega
  have f17 : ¬ (8303 : Int32) < q1 := by rw [Int32.lt_iff_toInt_lt, show (8303 : Int32).toInt = 8303 from by decide]; omega
  have f18 : ¬ (8591 : Int32) < q1 := by rw [Int32.lt_iff_toInt_lt, show (8591 : Int32).toInt = 8591 from by decide]; omega
  have f19 : ¬ (879 : Int32) < q1 := by rw [Int32.lt_iff_toInt_lt, show (879 : Int32).toInt = 879 from by decide]; omega
  have f20 : ¬ (893 : Int32) < q1 := by rw [Int32.lt_iff_toInt_lt, show (893 : Int32).toInt = 893 from by decide]; omega
  have f21 : (90 : Int32) < q1 := by rw [Int32.lt_iff_toInt_lt, show (90 : Int32).toInt = 90 from by decide]; omega
  have f22 : ¬ (983039 : Int32) < q1 := by rw [Int32.lt_iff_toInt_lt, show (983039 : Int32).toInt = 983039 from by decide]; omega
  have f23 : q1 < (11264 : Int32) := by rw [Int32.lt_iff_toInt_lt, show (11264 : Int32).toInt = 11264 from by decide]; omega
  have f24 : q1 < (12272 : Int32) := by rw [Int32.lt_iff_toInt_lt, show (12272 : Int32).toInt = 12272 from by decide]; omega
  have f25 : q1 < (12289 : Int32) := by rw [Int32.lt_iff_toInt_lt, show (12289 : Int32).toInt = 12289 from by decide]; omega
  have f26 : ¬ q1 < (128 : Int32) := by rw [Int32.lt_iff_toInt_lt, show (128 : Int32).toInt = 128 from by decide]; omega
  have f27 : ¬ q1 < (192 : Int32) := by rw [Int32.lt_iff_toInt_lt, show (192 : Int32).toInt = 192 from by decide]; omega
  have f28 : q1 < (216 : Int32) := by rw [Int32.lt_iff_toInt_lt, show (216 : Int32).toInt = 216 from by decide]; omega
  have f29 : q1 < (248 : Int32) := by rw [Int32.lt_iff_toInt_lt, show (248 : Int32).toInt = 248 from by decide]; omega
  have f30 : q1 < (55296 : Int32) := by rw [Int32.lt_iff_toInt_lt, show (55296 : Int32).toInt = 55296 from by decide]; omega
  have f31 : q1 < (63744 : Int32) := by rw [Int32.lt_iff_toInt_lt, show (63744 : Int32).toInt = 63744 from by decide]; omega
  have f32 : q1 < (64976 : Int32) := by rw [Int32.lt_iff_toInt_lt, show (64976 : Int32).toInt = 64976 from by decide]; omega
  have f33 : ¬ q1 < (65 : Int32) := by rw [Int32.lt_iff_toInt_lt, show (65 : Int32).toInt = 65 from by decide]; omega
  have f34 : q1 < (65008 : Int32) := by rw [Int32.lt_iff_toInt_lt, show (65008 : Int32).toInt = 65008 from by decide]; omega
  have f35 : q1 < (65534 : Int32) := by rw [Int32.lt_iff_toInt_lt, show (65534 : Int32).toInt = 65534 from by decide]; omega
  have f36 : q1 < (65536 : Int32) := by rw [Int32.lt_iff_toInt_lt, show (65536 : Int32).toInt = 65536 from by decide]; omega
  have f37 : q1 < (768 : Int32) := by rw [Int32.lt_iff_toInt_lt, show (768 : Int32).toInt = 768 from by decide]; omega
  have f38 : q1 < (8192 : Int32) := by rw [Int32.lt_iff_toInt_lt, show (8192 : Int32).toInt = 8192 from by decide]; omega
  have f39 : q1 < (8204 : Int32) := by rw [Int32.lt_iff_toInt_lt, show (8204 : Int32).toInt = 8204 from by decide]; omega
  have f40 : q1 < (8206 : Int32) := by rw [Int32.lt_iff_toInt_lt, show (8206 : Int32).toInt = 8206 from by decide]; omega
  have f41 : q1 < (8304 : Int32) := by rw [Int32.lt_iff_toInt_lt, show (8304 : Int32).toInt = 8304 from by decide]; omega
  have f42 : q1 < (8592 : Int32) := by rw [Int32.lt_iff_toInt_lt, show (8592 : Int32).toInt = 8592 from by decide]; omega
  have f43 : q1 < (880 : Int32) := by rw [Int32.lt_iff_toInt_lt, show (880 : Int32).toInt = 880 from by decide]; omega
  have f44 : q1 < (895 : Int32) := by rw [Int32.lt_iff_toInt_lt, show (895 : Int32).toInt = 895 from by decide]; omega
  have f45 : ¬ q1 < (97 : Int32) := by rw [Int32.lt_iff_toInt_lt, show (97 : Int32).toInt = 97 from by decide]; omega
  have f46 : q1 < (983040 : Int32) := by rw [Int32.lt_iff_toInt_lt, show (983040 : Int32).toInt = 983040 from by decide]; omega
  have f47 : q1 = (215 : Int32) := by exact Int32.toInt_inj.mp (by rw [show (215 : Int32).toInt = 215 from by decide]; omega)
  have f48 : ¬ q1 = (247 : Int32) := by intro q; rw [q, show (247 : Int32).toInt = 247 from by decide] at h1 h2; omega
  have f49 : ¬ q1 = (58 : Int32) := by intro q; rw [q, show (58 : Int32).toInt = 58 from by decide] at h1 h2; omega
  have f50 : ¬ q1 = (894 : Int32) := by intro q; rw [q, show (894 : Int32).toInt = 894 from by decide] at h1 h2; omega
  have f51 : ¬ q1 = (95 : Int32) := by intro q; rw [q, show (95 : Int32).toInt = 95 from by decide] at h1 h2; omega
  simp [nb3_0, nb3_21, nb3_23, nb3_37, nb3_51, nb3_65, nb3_79, nb3_93, nb3_107, nb3_121, nb3_135, nb3_148, nb3_160, nb3_172, nb3_184, nb3_188, nb4_0, nb4_19, nb4_31, nb4_43, nb4_47, nb4_49, nb4_84, nb4_105, nb4_119, nb4_133, nb4_147, nb4_159, nb4_171, nb4_183, nb4_189, nb4_193, nb4_203, f0, f1, f2, f3, f4, f5, f6, f7, f8, f9, f10, f11, f12, f13, f14, f15, f16, f17, f18, f19, f20, f21, f22, f23, f24, f25, f26, f27, f28, f29, f30, f31, f32, f33, f34, f35, f36, f37, f38, f39, f40, f41, f42, f43, f44, f45, f46, f47, f48, f49, f50, f51]
theorem own_leaf3 (q1 : Int32) (h1 : 216 ≤ q1.toInt) (h2 : q1.toInt < 247) : nb3_0 q1 = nb4_0 q1 := by
  have f0 : ¬ (11263 : Int32) < q1 := by rw [Int32.lt_iff_toInt_lt, show (11263 : Int32).toInt = 11263 from by decide]; omega
  have f1 : (122 : Int32) < q1 := by rw [Int32.lt_iff_toInt_lt, show (122 : Int32).toInt = 122 from by decide]; omega
  have f2 : ¬ (12271 : Int32) < q1 := by rw [Int32.lt_iff_toInt_lt, show (12271 : Int32).toInt = 12271 from by decide]; omega
  have f3 : ¬ (12288 : Int32) < q1 := by rw [Int32.lt_iff_toInt_lt, show (12288 : Int32).toInt = 12288 from by decide]; omega
  have f4 : (191 : Int32) < q1 := by rw [Int32.lt_iff_toInt_lt, show (191 : Int32).toInt = 191 from by decide]; omega
  have f5 : (214 : Int32) < q1 := by rw [Int32.lt_iff_toInt_lt, show (214 : Int32).toInt = 214 from by decide]; omega
  have f6 : ¬ (246 : Int32) < q1 := by rw [Int32.lt_iff_toInt_lt, show (246 : Int32).toInt = 246 from by decide]; omega
  have f7 : ¬ (55295 : Int32) < q1 := by rw [Int32.lt_iff_toInt_lt, show (55295 : Int32).toInt = 55295 from by decide]; omega
  have f8 : ¬ (63743 : Int32) < q1 := by rw [Int32.lt_iff_toInt_lt, show (63743 : Int32).toInt = 63743 from by decide]; omega
  have f9 : ¬ (64975 : Int32) < q1 := by rw [Int32.lt_iff_toInt_lt, show (64975 : Int32).toInt = 64975 from by decide]; omega
  have f10 : ¬ (65007 : Int32) < q1 := by rw [Int32.lt_iff_toInt_lt, show (65007 : Int32).toInt = 65007 from by decide]; omega
  have f11 : ¬ (65533 : Int32) < q1 := by rw [Int32.lt_iff_toInt_lt, show (65533 : Int32).toInt = 65533 from by decide]; omega
  have f12 : ¬ (65535 : Int32) < q1 := by rw [Int32.lt_iff_toInt_lt, show (65535 : Int32).toInt = 65535 from by decide]; omega
  have f13 : ¬ (767 : Int32) < q1 := by rw [Int32.lt_iff_toInt_lt, show (767 : Int32).toInt = 767 from by decide]; omega
  have f14 : ¬ (8191 : Int32) < q1 := by rw [Int32.lt_iff_toInt_lt, show (8191 : Int32).toInt = 8191 from by decide]; omega
  have f15 : ¬ (8203 : Int32) < q1 := by rw [Int32.lt_iff_toInt_lt, show (8203 : Int32).toInt = 8203 from by decide]; omega
  have f16 : ¬ (8205 : Int32) < q1 := by rw [Int32.lt_iff_toInt_lt, show (8205 : Int32).toInt = 8205 from by decide]; omega
  have f17 : ¬ (8303 : Int32) < q1 := by rw [Int32.lt_iff_toInt_lt, show (8303 : Int32).toInt = 8303 from by decide]; omega
  have f18 : ¬ (8591 : Int32) < q1 := by rw [Int32.lt_iff_toInt_lt, show (8591 : Int32).toInt = 8591 from by decide]; omega
  have f19 : ¬ (879 : Int32) < q1 := by rw [Int32.lt_iff_toInt_lt, show (879 : Int32).toInt = 879 from by decide]; omega
  have f20 : ¬ (893 : Int32) < q1 := by rw [Int32.lt_iff_toInt_lt, show (893 : Int32).toInt = 893 from by decide]; omega
  have f21 : (90 : Int32) < q1 := by rw [Int32.lt_iff_toInt_lt, show (90 : Int32).toInt = 90 from by decide]; omega
  have f22 : ¬ (983039 : Int32) < q1 := by rw [Int32.lt_iff_toInt_lt, show (983039 : Int32).toInt = 983039 from by decide]; omega
  have f23 : q1 < (11264 : Int32) := by rw [Int32.lt_iff_toInt_lt, show (11264 : Int32).toInt = 11264 from by decide]; omega
  have f24 : q1 < (12272 : Int32) := by rw [Int32.lt_iff_toInt_lt, show (12272 : Int32).toInt = 12272 from by decide]; omega
  have f25 : q1 < (12289 : Int32) := by rw [Int32.lt_iff_toInt_lt, show (12289 : Int32).toInt = 12289 from by decide]; omega
  have f26 : ¬ q1 < (128 : Int32) := by rw [Int32.lt_iff_toInt_lt, show (128 : Int32).toInt = 128 from by decide]; omega
  have f27 : ¬ q1 < (192 : Int32) := by rw [Int32.lt_iff_toInt_lt, show (192 : Int32).toInt = 192 from by decide]; omega
  have f28 : ¬ q1 < (216 : Int32) := by rw [Int32.lt_iff_toInt_lt, show (216 : Int32).toInt = 216 from by decide]; omega
  have f29 : q1 < (248 : Int32) := by rw [Int32.lt_iff_toInt_lt, show (248 : Int32).toInt = 248 from by decide]; omega
  have f30 : q1 < (55296 : Int32) := by rw [Int32.lt_iff_toInt_lt, show (55296 : Int32).toInt = 55296 from by decide]; omega
  have f31 : q1 < (63744 : Int32) := by rw [Int32.lt_iff_toInt_lt, show (63744 : Int32).toInt = 63744 from by decide]; omega
  have f32 : q1 < (64976 : Int32) := by rw [Int32.lt_iff_toInt_lt, show (64976 : Int32).toInt = 64976 from by decide]; omega
  have f33 : ¬ q1 < (65 : Int32) := by rw [Int32.lt_iff_toInt_lt, show (65 : Int32).toInt = 65 from by decide]; omega
  have f34 : q1 < (65008 : Int32) := by rw [Int32.lt_iff_toInt_lt, show (65008 : Int32).toInt = 65008 from by decide]; omega
  have f35 : q1 < (65534 : Int32) := by rw [Int32.lt_iff_toInt_lt, show (65534 : Int32).toInt = 65534 from by decide]; omega
  have f36 : q1 < (65536 : Int32) := by rw [Int32.lt_iff_toInt_lt, show (65536 : Int32).toInt = 65536 from by decide]; omega
  have f37 : q1 < (768 : Int32) := by rw [Int32.lt_iff_toInt_lt, show (768 : Int32).toInt = 768 from by decide]; omega
  have f38 : q1 < (8192 : Int32) := by rw [Int32.lt_iff_toInt_lt, show (8192 : Int32).toInt = 8192 from by decide]; omega
  have f39 : q1 < (8204 : Int32) := by rw [Int32.lt_iff_toInt_lt, show (8204 : Int32).toInt = 8204 from by decide]; omega
  have f40 : q1 < (8206 : Int32) := by rw [Int32.lt_iff_toInt_lt, show (8206 : Int32).toInt = 8206 from by decide]; omega
  have f41 : q1 < (8304 : Int32) := by rw [Int32.lt_iff_toInt_lt, show (8304 : Int32).toInt = 8304 from by decide]; omega
  have f42 : q1 < (8592 : Int32) := by rw [Int32.lt_iff_toInt_lt, show (8592 : Int32).toInt = 8592 from by decide]; omega
  have f43 : q1 < (880 : Int32) := by rw [Int32.lt_iff_toInt_lt, show (880 : Int32).toInt = 880 from by decide]; omega
  have f44 : q1 < (895 : Int32) := by rw [Int32.lt_iff_toInt_lt, show (895 : Int32).toInt = 895 from by decide]; omega
  have f45 : ¬ q1 < (97 : Int32) := by rw [Int32.lt_iff_toInt_lt, show (97 : Int32).toInt = 97 from by decide]; omega
  have f46 : q1 < (983040 : Int32) := by rw [Int32.lt_iff_toInt_lt, show (983040 : Int32).toInt = 983040 from by decide]; omega
  have f47 : ¬ q1 = (215 : Int32) := by intro q; rw [q, show (215 : Int32).toInt = 215 from by decide] at h1 h2; omega
  have f48 : ¬ q1 = (247 : Int32) := by intro q; rw [q, show (247 : Int32).toInt = 247 from by decide] at h1 h2; omega
  have f49 : ¬ q1 = (58 : Int32) := by intro q; rw [q, show (58 : Int32).toInt = 58 from by decide] at h1 h2; omega
  have f50 : ¬ q1 = (894 : Int32) := by intro q; rw [q, show (894 : Int32).toInt = 894 from by decide] at h1 h2; omega
  have f51 : ¬ q1 = (95 : Int32) := by intro q; rw [q, show (95 : Int32).toInt = 95 from by decide] at h1 h2; omega
  simp [nb3_0, nb3_21, nb3_23, nb3_37, nb3_51, nb3_65, nb3_79, nb3_93, nb3_107, nb3_121, nb3_135, nb3_148, nb3_160, nb3_172, nb3_184, nb3_188, nb4_0, nb4_19, nb4_31, nb4_43, nb4_47, nb4_49, nb4_84, nb4_105, nb4_119, nb4_133, nb4_147, nb4_159, nb4_171, nb4_183, nb4_189, nb4_193, nb4_203, f0, f1, f2, f3, f4, f5, f6, f7, f8, f9, f10, f11, f12, f13, f14, f15, f16, f17, f18, f19, f20, f21, f22, f23, f24, f25, f26, f27, f28, f29, f30, f31, f32, f33, f34, f35, f36, f37, f38, f39, f40, f41, f42, f43, f44, f45, f46, f47, f48, f49, f50, f51]
theorem own_leaf4 (q1 : Int32) (h1 : 247 ≤ q1.toInt) (h2 : q1.toInt < 248) : nb3_0 q1 = nb4_0 q1 := by
  have f0 : ¬ (11263 : Int32) < q1 := by rw [Int32.lt_iff_toInt_lt, show (11263 : Int32).toInt = 11263 from by decide]; omega
  have f1 : (122 : Int32) < q1 := by rw [Int32.lt_iff_toInt_lt, show (122 : Int32).toInt = 122 from by decide]; omega
  have f2 : ¬ (12271 : Int32) < q1 := by rw [Int32.lt_iff_toInt_lt, show (12271 : Int32).toInt = 12271 from by decide]; omega
  have f3 : ¬ (12288 : Int32) < q1 := by rw [Int32.lt_iff_toInt_lt, show (12288 : Int32).toInt = 12288 from by decide]; omega
  have f4 : (191 : Int32) < q1 := by rw [Int32.lt_iff_toInt_lt, show (191 : Int32).toInt = 191 from by decide]; omega
  have f5 : (214 : Int32) < q1 := by rw [Int32.lt_iff_toInt_lt, show (214 : Int32).toInt = 214 from by decide]; omega
  have f6 : (246 : Int32) < q1 := by rw [Int32.lt_iff_toInt_lt, show (246 : Int32).toInt = 246 from by decide]; omega
  have f7 : ¬ (55295 : Int32) < q1 := by rw [Int32.lt_iff_toInt_lt, show (55295 : Int32).toInt = 55295 from by decide]; omega
  have f8 : ¬ (63743 : Int32) < q1 := by rw [Int32.lt_iff_toInt_lt, show (63743 : Int32).toInt = 63743 from by decide]; omega
  have f9 : ¬ (64975 : Int32) < q1 := by rw [Int32.lt_iff_toInt_lt, show (64975 : Int32).toInt = 64975 from by decide]; omega
  have f10 : ¬ (65007 : Int32) < q1 := by rw [Int32.lt_iff_toInt_lt, show (65007 : Int32).toInt = 65007 from by decide]; omega
  have f11 : ¬ (65533 : Int32) < q1 := by rw [Int32.lt_iff_toInt_lt, show (65533 : Int32).toInt = 65533 from by decide]; omega
  have f12 : ¬ (65535 : Int32) < q1 := by rw [Int32.lt_iff_toInt_lt, show (65535 : Int32).toInt = 65535 from by decide]; omega
  have f13 : ¬ (767 : Int32) < q1 := by rw [Int32.lt_iff_toInt_lt, show (767 : Int32).toInt = 767 from by decide]; omega
  have f14 : ¬ (8191 : Int32) < q1 := by rw [Int32.lt_iff_toInt_lt, show (8191 : Int32).toInt = 8191 from by decide]; omega
  have f15 : ¬ (8203 : Int32) < q1 := by rw [Int32.lt_iff_toInt_lt, show (8203 : Int32).toInt = 8203 from by decide]; omega
  have f16 : ¬ (8205 : Int32) < q1 := by rw [Int32.lt_iff_toInt_lt, show (8205 : Int32).toInt = 8205 from by decide]; omega
  have f17 : ¬ (8303 : Int32) < q1 := by rw [Int32.lt_iff_toInt_lt, show (8303 : Int32).toInt = 8303 from by decide]; omega
  have f18 : ¬ (8591 : Int32) < q1 := by rw [Int32.lt_iff_toInt_lt, show (8591 : Int32).toInt = 8591 from by decide]; omega
  have f19 : ¬ (879 : Int32) < q1 := by rw [Int32.lt_iff_toInt_lt, show (879 : Int32).toInt = 879 from by decide]; omega
  have f20 : ¬ (893 : Int32) < q1 := by rw [Int32.lt_iff_toInt_lt, show (893 : Int32).toInt = 893 from by decide]; omega
  have f21 : (90 : Int32) < q1 := by rw [Int32.lt_iff_toInt_lt, show (90 : Int32).toInt = 90 from by decide]; omega
  have f22 : ¬ (983039 : Int32) < q1 := by rw [Int32.lt_iff_toInt_lt, show (983039 : Int32).toInt = 983039 from by decide]; omega
  have f23 : q1 < (11264 : Int32) := by rw [Int32.lt_iff_toInt_lt, show (11264 : Int32).toInt = 11264 from by decide]; omega
  have f24 : q1 < (12272 : Int32) := by rw [Int32.lt_iff_toInt_lt, show (12272 : Int32).toInt = 12272 from by decide]; omega
  have f25 : q1 < (12289 : Int32) := by rw [Int32.lt_iff_toInt_lt, show (12289 : Int32).toInt = 12289 from by decide]; omega
  have f26 : ¬ q1 < (128 : Int32) := by rw [Int32.lt_iff_toInt_lt, show (128 : Int32).toInt = 128 from by decide]; omega
  have f27 : ¬ q1 < (192 : Int32) := by rw [Int32.lt_iff_toInt_lt, show (192 : Int32).toInt = 192 from by decide]; omega
  have f28 : ¬ q1 < (216 : Int32) := by rw [Int32.lt_iff_toInt_lt, show (216 : Int32).toInt = 216 from by decide]; omega
  have f29 : q1 < (248 : Int32) := by rw [Int32.lt_iff_toInt_lt, show (248 : Int32).toInt = 248 from by decide]; omega
  have f30 : q1 < (55296 : Int32) := by rw [Int32.lt_iff_toInt_lt, show (55296 : Int32).toInt = 55296 from by decide]; omega
  have f31 : q1 < (63744 : Int32) := by rw [Int32.lt_iff_toInt_lt, show (63744 : Int32).toInt = 63744 from by decide]; omega
  have f32 : q1 < (64976 : Int32) := by rw [Int32.lt_iff_toInt_lt, show (64976 : Int32).toInt = 64976 from by decide]; omega
  have f33 : ¬ q1 < (65 : Int32) := by rw [Int32.lt_iff_toInt_lt, show (65 : Int32).toInt = 65 from by decide]; omega
  have f34 : q1 < (65008 : Int32) := by rw [Int32.lt_iff_toInt_lt, show (65008 : Int32).toInt = 65008 from by decide]; omega
  have f35 : q1 < (65534 : Int32) := by rw [Int32.lt_iff_toInt_lt, show (65534 : Int32).toInt = 65534 from by decide]; omega
  have f36 : q1 < (65536 : Int32) := by rw [Int32.lt_iff_toInt_lt, show (65536 : Int32).toInt = 65536 from by decide]; omega
  have f37 : q1 < (768 : Int32) := by rw [Int32.lt_iff_toInt_lt, show (768 : Int32).toInt = 768 from by decide]; omega
  have f38 : q1 < (8192 : Int32) := by rw [Int32.lt_iff_toInt_lt, show (8192 : Int32).toInt = 8192 from by decide]; omega
  have f39 : q1 < (8204 : Int32) := by rw [Int32.lt_iff_toInt_lt, show (8204 : Int32).toInt = 8204 from by decide]; omega
  have f40 : q1 < (8206 : Int32) := by rw [Int32.lt_iff_toInt_lt, show (8206 : Int32).toInt = 8206 from by decide]; omega
  have f41 : q1 < (8304 : Int32) := by rw [Int32.lt_iff_toInt_lt, show (8304 : Int32).toInt = 8304 from by decide]; omega
  have f42 : q1 < (8592 : Int32) := by rw [Int32.lt_iff_toInt_lt, show (8592 : Int32).toInt = 8592 from by decide]; omega
  have f43 : q1 < (880 : Int32) := by rw [Int32.lt_iff_toInt_lt, show (880 : Int32).toInt = 880 from by decide]; omega
  have f44 : q1 < (895 : Int32) := by rw [Int32.lt_iff_toInt_lt, show (895 : Int32).toInt = 895 from by decide]; omega
  have f45 : ¬ q1 < (97 : Int32) := by rw [Int32.lt_iff_toInt_lt, show (97 : Int32).toInt = 97 from by decide]; omega
  have f46 : q1 < (983040 : Int32) := by rw [Int32.lt_iff_toInt_lt, show (983040 : Int32).toInt = 983040 from by decide]; omega
  have f47 : ¬ q1 = (215 : Int32) := by intro q; rw [q, show (215 : Int32).toInt = 215 from by decide] at h1 h2; omega
  have f48 : q1 = (247 : Int32) := by exact Int32.toInt_inj.mp (by rw [show (247 : Int32).toInt = 247 from by decide]; omega)
  have f49 : ¬ q1 = (58 : Int32) := by intro q; rw [q, show (58 : Int32).toInt = 58 from by decide] at h1 h2; omega
  have f50 : ¬ q1 = (894 : Int32) := by intro q; rw [q, show (894 : Int32).toInt = 894 from by decide] at h1 h2; omega
  have f51 : ¬ q1 = (95 : Int32) := by intro q; rw [q, show (95 : Int32).toInt = 95 from by decide] at h1 h2; omega
  simp [nb3_0, nb3_21, nb3_23, nb3_37, nb3_51, nb3_65, nb3_79, nb3_93, nb3_107, nb3_121, nb3_135, nb3_148, nb3_160, nb3_172, nb3_184, nb3_188, nb4_0, nb4_19, nb4_31, nb4_43, nb4_47, nb4_49, nb4_84, nb4_105, nb4_119, nb4_133, nb4_147, nb4_159, nb4_171, nb4_183, nb4_189, nb4_193, nb4_203, f0, f1, f2, f3, f4, f5, f6, f7, f8, f9, f10, f11, f12, f13, f14, f15, f16, f17, f18, f19, f20, f21, f22, f23, f24, f25, f26, f27, f28, f29, f30, f31, f32, f33, f34, f35, f36, f37, f38, f39, f40, f41, f42, f43, f44, f45, f46, f47, f48, f49, f50, f51]
theorem own_leaf5 (q1 : Int32) (h1 : 248 ≤ q1.toInt) (h2 : q1.toInt < 768) : nb3_0 q1 = nb4_0 q1 := by
  have f0 : ¬ (11263 : Int32) < q1 := by rw [Int32.lt_iff_toInt_lt, show (11263 : Int32).toInt = 11263 from by decide]; omega
  have f1 : (122 : Int32) < q1 := by rw [Int32.lt_iff_toInt_lt, show (122 : Int32).toInt = 122 from by decide]; omega
  have f2 : ¬ (12271 : Int32) < q1 := by rw [Int32.lt_iff_toInt_lt, show (12271 : Int32).toInt = 12271 from by decide]; omega
  have f3 : ¬ (12288 : Int32) < q1 := by rw [Int32.lt_iff_toInt_lt, show (12288 : Int32).toInt = 12288 from by decide]; omega
  have f4 : (191 : Int32) < q1 := by rw [Int32.lt_iff_toInt_lt, show (191 : Int32).toInt = 191 from by decide]; omega
  have f5 : (214 : Int32) < q1 := by rw [Int32.lt_iff_toInt_lt, show (214 : Int32).toInt = 214 from by decide]; omega
  have f6 : (246 : Int32) < q1 := by rw [Int32.lt_iff_toInt_lt, show (246 : Int32).toInt = 246 from by decide]; omega
  have f7 : ¬ (55295 : Int32) < q1 := by rw [Int32.lt_iff_toInt_lt, show (55295 : Int32).toInt = 55295 from by decide]; omega
  have f8 : ¬ (63743 : Int32) < q1 := by rw [Int32.lt_iff_toInt_lt, show (63743 : Int32).toInt = 63743 from by decide]; omega
  have f9 : ¬ (64975 : Int32) < q1 := by rw [Int32.lt_iff_toInt_lt, show (64975 : Int32).toInt = 64975 from by decide]; omega
  have f10 : ¬ (65007 : Int32) < q1 := by rw [Int32.lt_iff_toInt_lt, show (65007 : Int32).toInt = 65007 from by decide]; omega
  have f11 : ¬ (65533 : Int32) < q1 := by rw [Int32.lt_iff_toInt_lt, show (65533 : Int32).toInt = 65533 from by decide]; omega
  have f12 : ¬ (65535 : Int32) < q1 := by rw [Int32.lt_iff_toInt_lt, show (65535 : Int32).toInt = 65535 from by decide]; omega
  have f13 : ¬ (767 : Int32) < q1 := by rw [Int32.lt_iff_toInt_lt, show (767 : Int32).toInt = 767 from by decide]; omega
  have f14 : ¬ (8191 : Int32) < q1 := by rw [Int32.lt_iff_toInt_lt, show (8191 : Int32).toInt = 8191 from by decide]; omega
  have f15 : ¬ (8203 : Int32) < q1 := by rw [Int32.lt_iff_toInt_lt, show (8203 : Int32).toInt = 8203 from by decide]; omega
  have f16 : ¬ (8205 : Int32) < q1 := by rw [Int32.lt_iff_toInt_lt, show (8205 : Int32).toInt = 8205 from by decide]; omega
  have f17 : ¬ (8303 : Int32) < q1 := by rw [Int32.lt_iff_toInt_lt, show (8303 : Int32).toInt = 8303 from by decide]; omega
  have f18 : ¬ (8591 : Int32) < q1 := by rw [Int32.lt_iff_toInt_lt, show (8591 : Int32).toInt = 8591 from by decide]; omega
  have f19 : ¬ (879 : Int32) < q1 := by rw [Int32.lt_iff_toInt_lt, show (879 : Int32).toInt = 879 from by decide]; omega
  have f20 : ¬ (893 : Int32) < q1 := by rw [Int32.lt_iff_toInt_lt, show (893 : Int32).toInt = 893 from by decide]; omega
  have f21 : (90 : Int32) < q1 := by rw [Int32.lt_iff_toInt_lt, show (90 : Int32).toInt = 90 from by decide]; omega
  have f22 : ¬ (983039 : Int32) < q1 := by rw [Int32.lt_iff_toInt_lt, show (983039 : Int32).toInt = 983039 from by decide]; omega
  have f23 : q1 < (11264 : Int32) := by rw [Int32.lt_iff_toInt_lt, show (11264 : Int32).toInt = 11264 from by decide]; omega
  have f24 : q1 < (12272 : Int32) := by rw [Int32.lt_iff_toInt_lt, show (12272 : Int32).toInt = 12272 from by decide]; omega
  have f25 : q1 < (12289 : Int32) := by rw [Int32.lt_iff_toInt_lt, show (12289 : Int32).toInt = 12289 from by decide]; omega
  have f26 : ¬ q1 < (128 : Int32) := by rw [Int32.lt_iff_toInt_lt, show (128 : Int32).toInt = 128 from by decide]; omega
  have f27 : ¬ q1 < (192 : Int32) := by rw [Int32.lt_iff_toInt_lt, show (192 : Int32).toInt = 192 from by decide]; omega
  have f28 : ¬ q1 < (216 : Int32) := by rw [Int32.lt_iff_toInt_lt, show (216 : Int32).toInt = 216 from by decide]; omega
  have f29 : ¬ q1 < (248 : Int32) := by rw [Int32.lt_iff_toInt_lt, show (248 : Int32).toInt = 248 from by decide]; omega
  have f30 : q1 < (55296 : Int32) := by rw [Int32.lt_iff_toInt_lt, show (55296 : Int32).toInt = 55296 from by decide]; omega
  have f31 : q1 < (63744 : Int32) := by rw [Int32.lt_iff_toInt_lt, show (63744 : Int32).toInt = 63744 from by decide]; omega
  have f32 : q1 < (64976 : Int32) := by rw [Int32.lt_iff_toInt_lt, show (64976 : Int32).toInt = 64976 from by decide]; omega
  have f33 : ¬ q1 < (65 : Int32) := by rw [Int32.lt_iff_toInt_lt, show (65 : Int32).toInt = 65 from by decide]; omega
  have f34 : q1 < (65008 : Int32) := by rw [Int32.lt_iff_toInt_lt, show (65008 : Int32).toInt = 65008 from by decide]; omega
  have f35 : q1 < (65534 : Int32) := by rw [Int32.lt_iff_toInt_lt, show (65534 : Int32).toInt = 65534 from by decide]; omega
  have f36 : q1 < (65536 : Int32) := by rw [Int32.lt_iff_toInt_lt, show (65536 : Int32).toInt = 65536 from by decide]; omega
  have f37 : q1 < (768 : Int32) := by rw [Int32.lt_iff_toInt_lt, show (768 : Int32).toInt = 768 from by decide]; omega
  have f38 : q1 < (8192 : Int32) := by rw [Int32.lt_iff_toInt_lt, show (8192 : Int32).toInt = 8192 from by decide]; omega
  have f39 : q1 < (8204 : Int32) := by rw [Int32.lt_iff_toInt_lt, show (8204 : Int32).toInt = 8204 from by decide]; omega
  have f40 : q1 < (8206 : Int32) := by rw [Int32.lt_iff_toInt_lt, show (8206 : Int32).toInt = 8206 from by decide]; omega
  have f41 : q1 < (8304 : Int32) := by rw [Int32.lt_iff_toInt_lt, show (8304 : Int32).toInt = 8304 from by decide]; omega
  have f42 : q1 < (8592 : Int32) := by rw [Int32.lt_iff_toInt_lt, show (8592 : Int32).toInt = 8592 from by decide]; omega
  have f43 : q1 < (880 : Int32) := by rw [Int32.lt_iff_toInt_lt, show (880 : Int32).toInt = 880 from by decide]; omega
  have f44 : q1 < (895 : Int32) := by rw [Int32.lt_iff_toInt_lt, show (895 : Int32).toInt = 895 from by decide]; omega
  have f45 : ¬ q1 < (97 : Int32) := by rw [Int32.lt_iff_toInt_lt, show (97 : Int32).toInt = 97 from by decide]; omega
  have f46 : q1 < (983040 : Int32) := by rw [Int32.lt_iff_toInt_lt, show (983040 : Int32).toInt = 983040 from by decide]; omega
  have f47 : ¬ q1 = (215 : Int32) := by intro q; rw [q, show (215 : Int32).toInt = 215 from by decide] at h1 h2; omega
  have f48 : ¬ q1 = (247 : Int32) := by intro q; rw [q, show (247 : Int32).toInt = 247 from by decide] at h1 h2; omega
  have f49 : ¬ q1 = (58 : Int32) := by intro q; rw [q, show (58 : Int32).toInt = 58 from by decide] at h1 h2; omega
  have f50 : ¬ q1 = (894 : Int32) := by intro q; rw [q, show (894 : Int32).toInt = 894 from by decide] at h1 h2; omega
  have f51 : ¬ q1 = (95 : Int32) := by intro q; rw [q, show (95 : Int32).toInt = 95 from by decide] at h1 h2; omega
  simp [nb3_0, nb3_21, nb3_23, nb3_37, nb3_51, nb3_65, nb3_79, nb3_93, nb3_107, nb3_121, nb3_135, nb3_148, nb3_160, nb3_172, nb3_184, nb3_188, nb4_0, nb4_19, nb4_31, nb4_43, nb4_47, nb4_49, nb4_84, nb4_105, nb4_119, nb4_133, nb4_147, nb4_159, nb4_171, nb4_183, nb4_189, nb4_193, nb4_203, f0, f1, f2, f3, f4, f5, f6, f7, f8, f9, f10, f11, f12, f13, f14, f15, f16, f17, f18, f19, f20, f21, f22, f23, f24, f25, f26, f27, f28, f29, f30, f31, f32, f33, f34, f35, f36, f37, f38, f39, f40, f41, f42, f43, f44, f45, f46, f47, f48, f49, f50, f51]
theorem own_leaf6 (q1 : Int32) (h1 : 768 ≤ q1.toInt) (h2 : q1.toInt < 880) : nb3_0 q1 = nb4_0 q1 := by
  have f0 : ¬ (11263 : Int32) < q1 := by rw [Int32.lt_iff_toInt_lt, show (11263 : Int32).toInt = 11263 from by decide]; omega
  have f1 : (122 : Int32) < q1 := by rw [Int32.lt_iff_toInt_lt, show (122 : Int32).toInt = 122 from by decide]; omega
  have f2 : ¬ (12271 : Int32) < q1 := by rw [Int32.lt_iff_toInt_lt, show (12271 : Int32).toInt = 12271 from by decide]; omega
  have f3 : ¬ (12288 : Int32) < q1 := by rw [Int32.lt_iff_toInt_lt, show (12288 : Int32).toInt = 12288 from by decide]; omega
  have f4 : (191 : Int32) < q1 := by rw [Int32.lt_iff_toInt_lt, show (191 : Int32).toInt = 191 from by decide]; omega
  have f5 : (214 : Int32) < q1 := by rw [Int32.lt_iff_toInt_lt, show (214 : Int32).toInt = 214 from by decide]; omega
  have f6 : (246 : Int32) < q1 := by rw [Int32.lt_iff_toInt_lt, show (246 : Int32).toInt = 246 from by decide]; omega
  have f7 : ¬ (55295 : Int32) < q1 := by rw [Int32.lt_iff_toInt_lt, show (55295 : Int32).toInt = 55295 from by decide]; omega
  have f8 : ¬ (63743 : Int32) < q1 := by rw [Int32.lt_iff_toInt_lt, show (63743 : Int32).toInt = 63743 from by decide]; omega
  have f9 : ¬ (64975 : Int32) < q1 := by rw [Int32.lt_iff_toInt_lt, show (64975 : Int32).toInt = 64975 from by decide]; omega
  have f10 : ¬ (65007 : Int32) < q1 := by rw [Int32.lt_iff_toInt_lt, show (65007 : Int32).toInt = 65007 from by decide]; omega
  have f11 : ¬ (65533 : Int32) < q1 := by rw [Int32.lt_iff_toInt_lt, show (65533 : Int32).toInt = 65533 from by decide]; omega
  have f12 : ¬ (65535 : Int32) < q1 := by rw [Int32.lt_iff_toInt_lt, show (65535 : Int32).toInt = 65535 from by decide]; omega
  have f13 : (767 : Int32) < q1 := by rw [Int32.lt_iff_toInt_lt, show (767 : Int32).toInt = 767 from by decide]; omega
  have f14 : ¬ (8191 : Int32) < q1 := by rw [Int32.lt_iff_toInt_lt, show (8191 : Int32).toInt = 8191 from by decide]; omega
  have f15 : ¬ (8203 : Int32) < q1 := by rw [Int32.lt_iff_toInt_lt, show (8203 : Int32).toInt = 8203 from by decide]; omega
  have f16 : ¬ (8205 : Int32) < q1 := by rw [Int32.lt_iff_toInt_lt, show (8205 : Int32).toInt = 8205 from by decide]; omega
  have f17 : ¬ (8303 : Int32) < q1 := by rw [Int32.lt_iff_toInt_lt, show (8303 : Int32).toInt = 8303 from by decide]; omega
  have f18 : ¬ (8591 : Int32) < q1 := by rw [Int32.lt_iff_toInt_lt, show (8591 : Int32).toInt = 8591 from by decide]; omega
  have f19 : ¬ (879 : Int32) < q1 := by rw [Int32.lt_iff_toInt_lt, show (879 : Int32).toInt = 879 from by decide]; omega
  have f20 : ¬ (893 : Int32) < q1 := by rw [Int32.lt_iff_toInt_lt, show (893 : Int32).toInt = 893 from by decide]; omega
  have f21 : (90 : Int32) < q1 := by rw [Int32.lt_iff_toInt_lt, show (90 : Int32).toInt = 90 from by decide]; omega
  have f22 : ¬ (983039 : Int32) < q1 := by rw [Int32.lt_iff_toInt_lt, show (983039 : Int32).toInt = 983039 from by decide]; omega
  have f23 : q1 < (11264 : Int32) := by rw [Int32.lt_iff_toInt_lt, show (11264 : Int32).toInt = 11264 from by decide]; omega
  have f24 : q1 < (12272 : Int32) := by rw [Int32.lt_iff_toInt_lt, show (12272 : Int32).toInt = 12272 from by decide]; omega
  have f25 : q1 < (12289 : Int32) := by rw [Int32.lt_iff_toInt_lt, show (12289 : Int32).toInt = 12289 from by decide]; omega
  have f26 : ¬ q1 < (128 : Int32) := by rw [Int32.lt_iff_toInt_lt, show (128 : Int32).toInt = 128 from by decide]; omega
  have f27 : ¬ q1 < (192 : Int32) := by rw [Int32.lt_iff_toInt_lt, show (192 : Int32).toInt = 192 from by decide]; omega
  have f28 : ¬ q1 < (216 : Int32) := by rw [Int32.lt_iff_toInt_lt, show (216 : Int32).toInt = 216 from by decide]; omega
  have f29 : ¬ q1 < (248 : Int32) := by rw [Int32.lt_iff_toInt_lt, show (248 : Int32).toInt = 248 from by decide]; omega
  have f30 : q1 < (55296 : Int32) := by rw [Int32.lt_iff_toInt_lt, show (55296 : Int32).toInt = 55296 from by decide]; omega
  have f31 : q1 < (63744 : Int32) := by rw [Int32.lt_iff_toInt_lt, show (63744 : Int32).toInt = 63744 from by decide]; omega
  have f32 : q1 < (64976 : Int32) := by rw [Int32.lt_iff_toInt_lt, show (64976 : Int32).toInt = 64976 from by decide]; omega
  have f33 : ¬ q1 < (65 : Int32) := by rw [Int32.lt_iff_toInt_lt, show (65 : Int32).toInt = 65 from by decide]; omega
  have f34 : q1 < (65008 : Int32) := by rw [Int32.lt_iff_toInt_lt, show (65008 : Int32).toInt = 65008 from by decide]; omega
  have f35 : q1 < (65534 : Int32) := by rw [Int32.lt_iff_toInt_lt, show (65534 : Int32).toInt = 65534 from by decide]; omega
  have f36 : q1 < (65536 : Int32) := by rw [Int32.lt_iff_toInt_lt, show (65536 : Int32).toInt = 65536 from by decide]; omega
  have f37 : ¬ q1 < (768 : Int32) := by rw [Int32.lt_iff_toInt_lt, show (768 : Int32).toInt = 768 from by decide]; omega
  have f38 : q1 < (8192 : Int32) := by rw [Int32.lt_iff_toInt_lt, show (8192 : Int32).toInt = 8192 from by decide]; omega
  have f39 : q1 < (8204 : Int32) := by rw [Int32.lt_iff_toInt_lt, show (8204 : Int32).toInt = 8204 from by decide]; omega
  have f40 : q1 < (8206 : Int32) := by rw [Int32.lt_iff_toInt_lt, show (8206 : Int32).toInt = 8206 from by decide]; omega
  have f41 : q1 < (8304 : Int32) := by rw [Int32.lt_iff_toInt_lt, show (8304 : Int32).toInt = 8304 from by decide]; omega
  have f42 : q1 < (8592 : Int32) := by rw [Int32.lt_iff_toInt_lt, show (8592 : Int32).toInt = 8592 from by decide]; omega
  have f43 : q1 < (880 : Int32) := by rw [Int32.lt_iff_toInt_lt, show (880 : Int32).toInt = 880 from by decide]; omega
  have f44 : q1 < (895 : Int32) := by rw [Int32.lt_iff_toInt_lt, show (895 : Int32).toInt = 895 from by decide]; omega
  have f45 : ¬ q1 < (97 : Int32) := by rw [Int32.lt_iff_toInt_lt, show (97 : Int32).toInt = 97 from by decide]; omega
  have f46 : q1 < (983040 : Int32) := by rw [Int32.lt_iff_toInt_lt, show (983040 : Int32).toInt = 983040 from by decide]; omega
  have f47 : ¬ q1 = (215 : Int32) := by intro q; rw [q, show (215 : Int32).toInt = 215 from by decide] at h1 h2; omega
  have f48 : ¬ q1 = (247 : Int32) := by intro q; rw [q, show (247 : Int32).toInt = 247 from by decide] at h1 h2; omega
  have f49 : ¬ q1 = (58 : Int32) := by intro q; rw [q, show (58 : Int32).toInt = 58 from by decide] at h1 h2; omega
  have f50 : ¬ q1 = (894 : Int32) := by intro q; rw [q, show (894 : Int32).toInt = 894 from by decide] at h1 h2; omega
  have f51 : ¬ q1 = (95 : Int32) := by intro q; rw [q, show (95 : Int32).toInt = 95 from by decide] at h1 h2; omega
  simp [nb3_0, nb3_21, nb3_23, nb3_37, nb3_51, nb3_65, nb3_79, nb3_93, nb3_107, nb3_121, nb3_135, nb3_148, nb3_160, nb3_172, nb3_184, nb3_188, nb4_0, nb4_19, nb4_31, nb4_43, nb4_47, nb4_49, nb4_84, nb4_105, nb4_119, nb4_133, nb4_147, nb4_159, nb4_171, nb4_183, nb4_189, nb4_193, nb4_203, f0, f1, f2, f3, f4, f5, f6, f7, f8, f9, f10, f11, f12, f13, f14, f15, f16, f17, f18, f19, f20, f21, f22, f23, f24, f25, f26, f27, f28, f29, f30, f31, f32, f33, f34, f35, f36, f37, f38, f39, f40, f41, f42, f43, f44, f45, f46, f47, f48, f49, f50, f51]
theorem own_leaf7 (q1 : Int32) (h1 : 880 ≤ q1.toInt) (h2 : q1.toInt < 894) : nb3_0 q1 = nb4_0 q1 := by
  have f0 : ¬ (11263 : Int32) < q1 := by rw [Int32.lt_iff_toInt_lt, show (11263 : Int32).toInt = 11263 from by decide]; omega
  have f1 : (122 : Int32) < q1 := by rw [Int32.lt_iff_toInt_lt, show (122 : Int32).toInt = 122 from by decide]; omega
  have f2 : ¬ (12271 : Int32) < q1 := by rw [Int32.lt_iff_toInt_lt, show (12271 : Int32).toInt = 12271 from by decide]; omega
  have f3 : ¬ (12288 : Int32) < q1 := by rw [Int32.lt_iff_toInt_lt, show (12288 : Int32).toInt = 12288 from by decide]; omega
  have f4 : (191 : Int32) < q1 := by rw [Int32.lt_iff_toInt_lt, show (191 : Int32).toInt = 191 from by decide]; omega
  have f5 : (214 : Int32) < q1 := by rw [Int32.lt_iff_toInt_lt, show (214 : Int32).toInt = 214 from by decide]; omega
  have f6 : (246 : Int32) < q1 := by rw [Int32.lt_iff_toInt_lt, show (246 : Int32).toInt = 246 from by decide]; omega
  have f7 : ¬ (55295 : Int32) < q1 := by rw [Int32.lt_iff_toInt_lt, show (55295 : Int32).toInt = 55295 from by decide]; omega
  have f8 : ¬ (63743 : Int32) < q1 := by rw [Int32.lt_iff_toInt_lt, show (63743 : Int32).toInt = 63743 from by decide]; omega
  have f9 : ¬ (64975 : Int32) < q1 := by rw [Int32.lt_iff_toInt_lt, show (64975 : Int32).toInt = 64975 from by decide]; omega
  have f10 : ¬ (65007 : Int32) < q1 := by rw [Int32.lt_iff_toInt_lt, show (65007 : Int32).toInt = 65007 from by decide]; omega
  have f11 : ¬ (65533 : Int32) < q1 := by rw [Int32.lt_iff_toInt_lt, show (65533 : Int32).toInt = 65533 from by decide]; omega
  have f12 : ¬ (65535 : Int32) < q1 := by rw [Int32.lt_iff_toInt_lt, show (65535 : Int32).toInt = 65535 from by decide]; omega
  have f13 : (767 : Int32) < q1 := by rw [Int32.lt_iff_toInt_lt, show (767 : Int32).toInt = 767 from by decide]; omega
  have f14 : ¬ (8191 : Int32) < q1 := by rw [Int32.lt_iff_toInt_lt, show (8191 : Int32).toInt = 8191 from by decide]; omega
  have f15 : ¬ (8203 : Int32) < q1 := by rw [Int32.lt_iff_toInt_lt, show (8203 : Int32).toInt = 8203 from by decide]; omega
  have f16 : ¬ (8205 : Int32) < q1 := by rw [Int32.lt_iff_toInt_lt, show (8205 : Int32).toInt = 8205 from by decide]; omega
  have f17 : ¬ (8303 : Int32) < q1 := by rw [Int32.lt_iff_toInt_lt, show (8303 : Int32).toInt = 8303 from by decide]; omega
  have f18 : ¬ (8591 : Int32) < q1 := by rw [Int32.lt_iff_toInt_lt, show (8591 : Int32).toInt = 8591 from by decide]; omega
  have f19 : (879 : Int32) < q1 := by rw [Int32.lt_iff_toInt_lt, show (879 : Int32).toInt = 879 from by decide]; omega
  have f20 : ¬ (893 : Int32) < q1 := by rw [Int32.lt_iff_toInt_lt, show (893 : Int32).toInt = 893 from by decide]; omega
  have f21 : (90 : Int32) < q1 := by rw [Int32.lt_iff_toInt_lt, show (90 : Int32).toInt = 90 from by decide]; omega
  have f22 : ¬ (983039 : Int32) < q1 := by rw [Int32.lt_iff_toInt_lt, show (983039 : Int32).toInt = 983039 from by decide]; omega
  have f23 : q1 < (11264 : Int32) := by rw [Int32.lt_iff_toInt_lt, show (11264 : Int32).toInt = 11264 from by decide]; omega
  have f24 : q1 < (12272 : Int32) := by rw [Int32.lt_iff_toInt_lt, show (12272 : Int32).toInt = 12272 from by decide]; omega
  have f25 : q1 < (12289 : Int32) := by rw [Int32.lt_iff_toInt_lt, show (12289 : Int32).toInt = 12289 from by decide]; omega
  have f26 : ¬ q1 < (128 : Int32) := by rw [Int32.lt_iff_toInt_lt, show (128 : Int32).toInt = 128 from by decide]; omega
  have f27 : ¬ q1 < (192 : Int32) := by rw [Int32.lt_iff_toInt_lt, show (192 : Int32).toInt = 192 from by decide]; omega
  have f28 : ¬ q1 < (216 : Int32) := by rw [Int32.lt_iff_toInt_lt, show (216 : Int32).toInt = 216 from by decide]; omega
  have f29 : ¬ q1 < (248 : Int32) := by rw [Int32.lt_iff_toInt_lt, show (248 : Int32).toInt = 248 from by decide]; omega
  have f30 : q1 < (55296 : Int32) := by rw [Int32.lt_iff_toInt_lt, show (55296 : Int32).toInt = 55296 from by decide]; omega
  have f31 : q1 < (63744 : Int32) := by rw [Int32.lt_iff_toInt_lt, show (63744 : Int32).toInt = 63744 from by decide]; omega
  have f32 : q1 < (64976 : Int32) := by rw [Int32.lt_iff_toInt_lt, show (64976 : Int32).toInt = 64976 from by decide]; omega
  have f33 : ¬ q1 < (65 : Int32) := by rw [Int32.lt_iff_toInt_lt, show (65 : Int32).toInt = 65 from by decide]; omega
  have f34 : q1 < (65008 : Int32) := by rw [Int32.lt_iff_toInt_lt, show (65008 : Int32).toInt = 65008 from by decide]; omega
  have f35 : q1 < (65534 : Int32) := by rw [Int32.lt_iff_toInt_lt, show (65534 : Int32).toInt = 65534 from by decide]; omega
  have f36 : q1 < (65536 : Int32) := by rw [Int32.lt_iff_toInt_lt, show (65536 : Int32).toInt = 65536 from by decide]; omega
  have f37 : ¬ q1 < (768 : Int32) := by rw [Int32.lt_iff_toInt_lt, show (768 : Int32).toInt = 768 from by decide]; omega
  have f38 : q1 < (8192 : Int32) := by rw [Int32.lt_iff_toInt_lt, show (8192 : Int32).toInt = 8192 from by decide]; omega
  have f39 : q1 < (8204 : Int32) := by rw [Int32.lt_iff_toInt_lt, show (8204 : Int32).toInt = 8204 from by decide]; omega
  have f40 : q1 < (8206 : Int32) := by rw [Int32.lt_iff_toInt_lt, show (8206 : Int32).toInt = 8206 from by decide]; omega
  have f41 : q1 < (8304 : Int32) := by rw [Int32.lt_iff_toInt_lt, show (8304 : Int32).toInt = 8304 from by decide]; omega
  have f42 : q1 < (8592 : Int32) := by rw [Int32.lt_iff_toInt_lt, show (8592 : Int32).toInt = 8592 from by decide]; omega
  have f43 : ¬ q1 < (880 : Int32) := by rw [Int32.lt_iff_toInt_lt, show (880 : Int32).toInt = 880 from by decide]; omega
  have f44 : q1 < (895 : Int32) := by rw [Int32.lt_iff_toInt_lt, show (895 : Int32).toInt = 895 from by decide]; omega
  have f45 : ¬ q1 < (97 : Int32) := by rw [Int32.lt_iff_toInt_lt, show (97 : Int32).toInt = 97 from by decide]; omega
  have f46 : q1 < (983040 : Int32) := by rw [Int32.lt_iff_toInt_lt, show (983040 : Int32).toInt = 983040 from by decide]; omega
  have f47 : ¬ q1 = (215 : Int32) := by intro q; rw [q, show (215 : Int32).toInt = 215 from by decide] at h1 h2; omega
  have f48 : ¬ q1 = (247 : Int32) := by intro q; rw [q, show (247 : Int32).toInt = 247 from by decide] at h1 h2; omega
  have f49 : ¬ q1 = (58 : Int32) := by intro q; rw [q, show (58 : Int32).toInt = 58 from by decide] at h1 h2; omega
  have f50 : ¬ q1 = (894 : Int32) := by intro q; rw [q, show (894 : Int32).toInt = 894 from by decide] at h1 h2; omega
  have f51 : ¬ q1 = (95 : Int32) := by intro q; rw [q, show (95 : Int32).toInt = 95 from by decide] at h1 h2; omega
  simp [nb3_0, nb3_21, nb3_23, nb3_37, nb3_51, nb3_65, nb3_79, nb3_93, nb3_107, nb3_121, nb3_135, nb3_148, nb3_160, nb3_172, nb3_184, nb3_188, nb4_0, nb4_19, nb4_31, nb4_43, nb4_47, nb4_49, nb4_84, nb4_105, nb4_119, nb4_133, nb4_147, nb4_159, nb4_171, nb4_183, nb4_189, nb4_193, nb4_203, f0, f1, f2, f3, f4, f5, f6, f7, f8, f9, f10, f11, f12, f13, f14, f15, f16, f17, f18, f19, f20, f21, f22, f23, f24, f25, f26, f27, f28, f29, f30, f31, f32, f33, f34, f35, f36, f37, f38, f39, f40, f41, f42, f43, f44, f45, f46, f47, f48, f49, f50, f51]
theorem own_leaf8 (q1 : Int32) (h1 : 894 ≤ q1.toInt) (h2 : q1.toInt < 895) : nb3_0 q1 = nb4_0 q1 := by
  have f0 : ¬ (11263 : Int32) < q1 := by rw [Int32.lt_iff_toInt_lt, show (11263 : Int32).toInt = 11263 from by decide]; omega
  have f1 : (122 : Int32) < q1 := by rw [Int32.lt_iff_toInt_lt, show (122 : Int32).toInt = 122 from by decide]; omega
  have f2 : ¬ (12271 : Int32) < q1 := by rw [Int32.lt_iff_toInt_lt, show (12271 : Int32).toInt = 12271 from by decide]; omega
  have f3 : ¬ (12288 : Int32) < q1 := by rw [Int32.lt_iff_toInt_lt, show (12288 : Int32).toInt = 12288 from by decide]; omega
  have f4 : (191 : Int32) < q1 := by rw [Int32.lt_iff_toInt_lt, show (191 : Int32).toInt = 191 from by decide]; omega
  have f5 : (214 : Int32) < q1 := by rw [Int32.lt_iff_toInt_lt, show (214 : Int32).toInt = 214 from by decide]; omega
  have f6 : (246 : Int32) < q1 := by rw [Int32.lt_iff_toInt_lt, show (246 : Int32).toInt = 246 from by decide]; omega
  have f7 : ¬ (55295 : Int32) < q1 := by rw [Int32.lt_iff_toInt_lt, show (55295 : Int32).toInt = 55295 from by decide]; omega
  have f8 : ¬ (63743 : Int32) < q1 := by rw [Int32.lt_iff_toInt_lt, show (63743 : Int32).toInt = 63743 from by decide]; omega
  have f9 : ¬ (64975 : Int32) < q1 := by rw [Int32.lt_iff_toInt_lt, show (64975 : Int32).toInt = 64975 from by decide]; omega
  have f10 : ¬ (65007 : Int32) < q1 := by rw [Int32.lt_iff_toInt_lt, show (65007 : Int32).toInt = 65007 from by decide]; omega
  have f11 : ¬ (65533 : Int32) < q1 := by rw [Int32.lt_iff_toInt_lt, show (65533 : Int32).toInt = 65533 from by decide]; omega
  have f12 : ¬ (65535 : Int32) < q1 := by rw [Int32.lt_iff_toInt_lt, show (65535 : Int32).toInt = 65535 from by decide]; omega
  have f13 : (767 : Int32) < q1 := by rw [Int32.lt_iff_toInt_lt, show (767 : Int32).toInt = 767 from by decide]; omega
  have f14 : ¬ (8191 : Int32) < q1 := by rw [Int32.lt_iff_toInt_lt, show (8191 : Int32).toInt = 8191 from by decide]; omega
  have f15 : ¬ (8203 : Int32) < q1 := by rw [Int32.lt_iff_toInt_lt, show (8203 : Int32).toInt = 8203 from by decide]; omega
  have f16 : ¬ (8205 : Int32) < q1 := by rw [Int32.lt_iff_toInt_lt, show (8205 : Int32).toInt = 8205 from by decide]; omega
  have f17 : ¬ (8303 : Int32) < q1 := by rw [Int32.lt_iff_toInt_lt, show (8303 : Int32).toInt = 8303 from by decide]; omega
  have f18 : ¬ (8591 : Int32) < q1 := by rw [Int32.lt_iff_toInt_lt, show (8591 : Int32).toInt = 8591 from by decide]; omega
  have f19 : (879 : Int32) < q1 := by rw [Int32.lt_iff_toInt_lt, show (879 : Int32).toInt = 879 from by decide]; omega
  have f20 : (893 : Int32) < q1 := by rw [Int32.lt_iff_toInt_lt, show (893 : Int32).toInt = 893 from by decide]; omega
  have f21 : (90 : Int32) < q1 := by rw [Int32.lt_iff_toInt_lt, show (90 : Int32).toInt = 90 from by decide]; omega
  have f22 : ¬ (983039 : Int32) < q1 := by rw [Int32.lt_iff_toInt_lt, show (983039 : Int32).toInt = 983039 from by decide]; omega
  have f23 : q1 < (11264 : Int32) := by rw [Int32.lt_iff_toInt_lt, show (11264 : Int32).toInt = 11264 from by decide]; omega
  have f24 : q1 < (12272 : Int32) := by rw [Int32.lt_iff_toInt_lt, show (12272 : Int32).toInt = 12272 from by decide]; omega
  have f25 : q1 < (12289 : Int32) := by rw [Int32.lt_iff_toInt_lt, show (12289 : Int32).toInt = 12289 from by decide]; omega
  have f26 : ¬ q1 < (128 : Int32) := by rw [Int32.lt_iff_toInt_lt, show (128 : Int32).toInt = 128 from by decide]; omega
  have f27 : ¬ q1 < (192 : Int32) := by rw [Int32.lt_iff_toInt_lt, show (192 : Int32).toInt = 192 from by decide]; omega
  have f28 : ¬ q1 < (216 : Int32) := by rw [Int32.lt_iff_toInt_lt, show (216 : Int32).toInt = 216 from by decide]; omega
  have f29 : ¬ q1 < (248 : Int32) := by rw [Int32.lt_iff_toInt_lt, show (248 : Int32).toInt = 248 from by decide]; omega
  have f30 : q1 < (55296 : Int32) := by rw [Int32.lt_iff_toInt_lt, show (55296 : Int32).toInt = 55296 from by decide]; omega
  have f31 : q1 < (63744 : Int32) := by rw [Int32.lt_iff_toInt_lt, show (63744 : Int32).toInt = 63744 from by decide]; omega
  have f32 : q1 < (64976 : Int32) := by rw [Int32.lt_iff_toInt_lt, show (64976 : Int32).toInt = 64976 from by decide]; omega
  have f33 : ¬ q1 < (65 : Int32) := by rw [Int32.lt_iff_toInt_lt, show (65 : Int32).toInt = 65 from by decide]; omega
  have f34 : q1 < (65008 : Int32) := by rw [Int32.lt_iff_toInt_lt, show (65008 : Int32).toInt = 65008 from by decide]; omega
  have f35 : q1 < (65534 : Int32) := by rw [Int32.lt_iff_toInt_lt, show (65534 : Int32).toInt = 65534 from by decide]; omega
  have f36 : q1 < (65536 : Int32) := by rw [Int32.lt_iff_toInt_lt, show (65536 : Int32).toInt = 65536 from by decide]; omega
  have f37 : ¬ q1 < (768 : Int32) := by rw [Int32.lt_iff_toInt_lt, show (768 : Int32).toInt = 768 from by decide]; omega
  have f38 : q1 < (8192 : Int32) := by rw [Int32.lt_iff_toInt_lt, show (8192 : Int32).toInt = 8192 from by decide]; omega
  have f39 : q1 < (8204 : Int32) := by rw [Int32.lt_iff_toInt_lt, show (8204 : Int32).toInt = 8204 from by decide]; omega
  have f40 : q1 < (8206 : Int32) := by rw [Int32.lt_iff_toInt_lt, show (8206 : Int32).toInt = 8206 from by decide]; omega
  have f41 : q1 < (8304 : Int32) := by rw [Int32.lt_iff_toInt_lt, show (8304 : Int32).toInt = 8304 from by decide]; omega
  have f42 : q1 < (8592 : Int32) := by rw [Int32.lt_iff_toInt_lt, show (8592 : Int32).toInt = 8592 from by decide]; omega
  have f43 : ¬ q1 < (880 : Int32) := by rw [Int32.lt_iff_toInt_lt, show (880 : Int32).toInt = 880 from by decide]; omega
  have f44 : q1 < (895 : Int32) := by rw [Int32.lt_iff_toInt_lt, show (895 : Int32).toInt = 895 from by decide]; omega
  have f45 : ¬ q1 < (97 : Int32) := by rw [Int32.lt_iff_toInt_lt, show (97 : Int32).toInt = 97 from by decide]; omega
  have f46 : q1 < (983040 : Int32) := by rw [Int32.lt_iff_toInt_lt, show (983040 : Int32).toInt = 983040 from by decide]; omega
  have f47 : ¬ q1 = (215 : Int32) := by intro q; rw [q, show (215 : Int32).toInt = 215 from by decide] at h1 h2; omega
  have f48 : ¬ q1 = (247 : Int32) := by intro q; rw [q, show (247 : Int32).toInt = 247 from by decide] at h1 h2; omega
  have f49 : ¬ q1 = (58 : Int32) := by intro q; rw [q, show (58 : Int32).toInt = 58 from by decide] at h1 h2; omega
  have f50 : q1 = (894 : Int32) := by exact Int32.toInt_inj.mp (by rw [show (894 : Int32).toInt = 894 from by decide]; omega)
  have f51 : ¬ q1 = (95 : Int32) := by intro q; rw [q, show (95 : Int32).toInt = 95 from by decide] at h1 h2; omega
  simp [nb3_0, nb3_21, nb3_23, nb3_37, nb3_51, nb3_65, nb3_79, nb3_93, nb3_107, nb3_121, nb3_135, nb3_148, nb3_160, nb3_172, nb3_184, nb3_188, nb4_0, nb4_19, nb4_31, nb4_43, nb4_47, nb4_49, nb4_84, nb4_105, nb4_119, nb4_133, nb4_147, nb4_159, nb4_171, nb4_183, nb4_189, nb4_193, nb4_203, f0, f1, f2, f3, f4, f5, f6, f7, f8, f9, f10, f11, f12, f13, f14, f15, f16, f17, f18, f19, f20, f21, f22, f23, f24, f25, f26, f27, f28, f29, f30, f31, f32, f33, f34, f35, f36, f37, f38, f39, f40, f41, f42, f43, f44, f45, f46, f47, f48, f49, f50, f51]
theorem own_leaf9 (q1 : Int32) (h1 : 895 ≤ q1.toInt) (h2 : q1.toInt < 8192) : nb3_0 q1 = nb4_0 q1 := by
  have f0 : ¬ (11263 : Int32) < q1 := by rw [Int32.lt_iff_toInt_lt, show (11263 : Int32).toInt = 11263 from by decide]; omega
  have f1 : (122 : Int32) < q1 := by rw [Int32.lt_iff_toInt_lt, show (122 : Int32).toInt = 122 from by decide]; omega
  have f2 : ¬ (12271 : Int32) < q1 := by rw [Int32.lt_iff_toInt_lt, show (12271 : Int32).toInt = 12271 from by decide]; omega
  have f3 : ¬ (12288 : Int32) < q1 := by rw [Int32.lt_iff_toInt_lt, show (12288 : Int32).toInt = 12288 from by decide]; omega
  have f4 : (191 : Int32) < q1 := by rw [Int32.lt_iff_toInt_lt, show (191 : Int32).toInt = 191 from by decide]; omega
  have f5 : (214 : Int32) < q1 := by rw [Int32.lt_iff_toInt_lt, show (214 : Int32).toInt = 214 from by decide]; omega
  have f6 : (246 : Int32) < q1 := by rw [Int32.lt_iff_toInt_lt, show (246 : Int32).toInt = 246 from by decide]; omega
  have f7 : ¬ (55295 : Int32) < q1 := by rw [Int32.lt_iff_toInt_lt, show (55295 : Int32).toInt = 55295 from by decide]; omega
  have f8 : ¬ (63743 : Int32) < q1 := by rw [Int32.lt_iff_toInt_lt, show (63743 : Int32).toInt = 63743 from by decide]; omega
  have f9 : ¬ (64975 : Int32) < q1 := by rw [Int32.lt_iff_toInt_lt, show (64975 : Int32).toInt = 64975 from by decide]; omega
  have f10 : ¬ (65007 : Int32) < q1 := by rw [Int32.lt_iff_toInt_lt, show (65007 : Int32).toInt = 65007 from by decide]; omega
  have f11 : ¬ (65533 : Int32) < q1 := by rw [Int32.lt_iff_toInt_lt, show (65533 : Int32).toInt = 65533 from by decide]; omega
  have f12 : ¬ (65535 : Int32) < q1 := by rw [Int32.lt_iff_toInt_lt, show (65535 : Int32).toInt = 65535 from by decide]; omega
  have f13 : (767 : Int32) < q1 := by rw [Int32.lt_iff_toInt_lt, show (767 : Int32).toInt = 767 from by decide]; omega
  have f14 : ¬ (8191 : Int32) < q1 := by rw [Int32.lt_iff_toInt_lt, show (8191 : Int32).toInt = 8191 from by decide]; omega
  have f15 : ¬ (8203 : Int32) < q1 := by rw [Int32.lt_iff_toInt_lt, show (8203 : Int32).toInt = 8203 from by decide]; omega
  have f16 : ¬ (8205 : Int32) < q1 := by rw [Int32.lt_iff_toInt_lt, show (8205 : Int32).toInt = 8205 from by decide]; omega
  have f17 : ¬ (8303 : Int32) < q1 := by rw [Int32.lt_iff_toInt_lt, show (8303 : Int32).toInt = 8303 from by decide]; omega
  have f18 : ¬ (8591 : Int32) < q1 := by rw [Int32.lt_iff_toInt_lt, show (8591 : Int32).toInt = 8591 from by decide]; omega
  have f19 : (879 : Int32) < q1 := by rw [Int32.lt_iff_toInt_lt, show (879 : Int32).toInt = 879 from by decide]; omega
  have f20 : (893 : Int32) < q1 := by rw [Int32.lt_iff_toInt_lt, show (893 : Int32).toInt = 893 from by decide]; omega
  have f21 : (90 : Int32) < q1 := by rw [Int32.lt_iff_toInt_lt, show (90 : Int32).toInt = 90 from by decide]; omega
  have f22 : ¬ (983039 : Int32) < q1 := by rw [Int32.lt_iff_toInt_lt, show (983039 : Int32).toInt = 983039 from by decide]; omega
  have f23 : q1 < (11264 : Int32) := by rw [Int32.lt_iff_toInt_lt, show (11264 : Int32).toInt = 11264 from by decide]; omega
  have f24 : q1 < (12272 : Int32) := by rw [Int32.lt_iff_toInt_lt, show (12272 : Int32).toInt = 12272 from by decide]; omega
  have f25 : q1 < (12289 : Int32) := by rw [Int32.lt_iff_toInt_lt, show (12289 : Int32).toInt = 12289 from by decide]; omega
  have f26 : ¬ q1 < (128 : Int32) := by rw [Int32.lt_iff_toInt_lt, show (128 : Int32).toInt = 128 from by decide]; omega
  have f27 : ¬ q1 < (192 : Int32) := by rw [Int32.lt_iff_toInt_lt, show (192 : Int32).toInt = 192 from by decide]; omega
  have f28 : ¬ q1 < (216 : Int32) := by rw [Int32.lt_iff_toInt_lt, show (216 : Int32).toInt = 216 from by decide]; omega
  have f29 : ¬ q1 < (248 : Int32) := by rw [Int32.lt_iff_toInt_lt, show (248 : Int32).toInt = 248 from by decide]; omega
  have f30 : q1 < (55296 : Int32) := by rw [Int32.lt_iff_toInt_lt, show (55296 : Int32).toInt = 55296 from by decide]; omega
  have f31 : q1 < (63744 : Int32) := by rw [Int32.lt_iff_toInt_lt, show (63744 : Int32).toInt = 63744 from by decide]; omega
  have f32 : q1 < (64976 : Int32) := by rw [Int32.lt_iff_toInt_lt, show (64976 : Int32).toInt = 64976 from by decide]; omega
  have f33 : ¬ q1 < (65 : Int32) := by rw [Int32.lt_iff_toInt_lt, show (65 : Int32).toInt = 65 from by decide]; omega
  have f34 : q1 < (65008 : Int32) := by rw [Int32.lt_iff_toInt_lt, show (65008 : Int32).toInt = 65008 from by decide]; omega
  have f35 : q1 < (65534 : Int32) := by rw [Int32.lt_iff_toInt_lt, show (65534 : Int32).toInt = 65534 from by decide]; omega
  have f36 : q1 < (65536 : Int32) := by rw [Int32.lt_iff_toInt_lt, show (65536 : Int32).toInt = 65536 from by decide]; omega
  have f37 : ¬ q1 < (768 : Int32) := by rw [Int32.lt_iff_toInt_lt, show (768 : Int32).toInt = 768 from by decide]; omega
  have f38 : q1 < (8192 : Int32) := by rw [Int32.lt_iff_toInt_lt, show (8192 : Int32).toInt = 8192 from by decide]; omega
  have f39 : q1 < (8204 : Int32) := by rw [Int32.lt_iff_toInt_lt, show (8204 : Int32).toInt = 8204 from by decide]; omega
  have f40 : q1 < (8206 : Int32) := by rw [Int32.lt_iff_toInt_lt, show (8206 : Int32).toInt = 8206 from by decide]; omega
  have f41 : q1 < (8304 : Int32) := by rw [Int32.lt_iff_toInt_lt, show (8304 : Int32).toInt = 8304 from by decide]; omega
  have f42 : q1 < (8592 : Int32) := by rw [Int32.lt_iff_toInt_lt, show (8592 : Int32).toInt = 8592 from by decide]; omega
  have f43 : ¬ q1 < (880 : Int32) := by rw [Int32.lt_iff_toInt_lt, show (880 : Int32).toInt = 880 from by decide]; omega
  have f44 : ¬ q1 < (895 : Int32) := by rw [Int32.lt_iff_toInt_lt, show (895 : Int32).toInt = 895 from by decide]; omega
  have f45 : ¬ q1 < (97 : Int32) := by rw [Int32.lt_iff_toInt_lt, show (97 : Int32).toInt = 97 from by decide]; omega
  have f46 : q1 < (983040 : Int32) := by rw [Int32.lt_iff_toInt_lt, show (983040 : Int32).toInt = 983040 from by decide]; omega
  have f47 : ¬ q1 = (215 : Int32) := by intro q; rw [q, show (215 : Int32).toInt = 215 from by decide] at h1 h2; omega
  have f48 : ¬ q1 = (247 : Int32) := by intro q; rw [q, show (247 : Int32).toInt = 247 from by decide] at h1 h2; omega
  have f49 : ¬ q1 = (58 : Int32) := by intro q; rw [q, show (58 : Int32).toInt = 58 from by decide] at h1 h2; omega
  have f50 : ¬ q1 = (894 : Int32) := by intro q; rw [q, show (894 : Int32).toInt = 894 from by decide] at h1 h2; omega
  have f51 : ¬ q1 = (95 : Int32) := by intro q; rw [q, show (95 : Int32).toInt = 95 from by decide] at h1 h2; omega
  simp [nb3_0, nb3_21, nb3_23, nb3_37, nb3_51, nb3_65, nb3_79, nb3_93, nb3_107, nb3_121, nb3_135, nb3_148, nb3_160, nb3_172, nb3_184, nb3_188, nb4_0, nb4_19, nb4_31, nb4_43, nb4_47, nb4_49, nb4_84, nb4_105, nb4_119, nb4_133, nb4_147, nb4_159, nb4_171, nb4_183, nb4_189, nb4_193, nb4_203, f0, f1, f2, f3, f4, f5, f6, f7, f8, f9, f10, f11, f12, f13, f14, f15, f16, f17, f18, f19, f20, f21, f22, f23, f24, f25, f26, f27, f28, f29, f30, f31, f32, f33, f34, f35, f36, f37, f38, f39, f40, f41, f42, f43, f44, f45, f46, f47, f48, f49, f50, f51]
theorem own_leaf10 (q1 : Int32) (h1 : 8192 ≤ q1.toInt) (h2 : q1.toInt < 8204) : nb3_0 q1 = nb4_0 q1 := by
  have f0 : ¬ (11263 : Int32) < q1 := by rw [Int32.lt_iff_toInt_lt, show (11263 : Int32).toInt = 11263 from by decide]; omega
  have f1 : (122 : Int32) < q1 := by rw [Int32.lt_iff_toInt_lt, show (122 : Int32).toInt = 122 from by decide]; omega
  have f2 : ¬ (12271 : Int32) < q1 := by rw [Int32.lt_iff_toInt_lt, show (12271 : Int32).toInt = 12271 from by decide]; omega
  have f3 : ¬ (12288 : Int32) < q1 := by rw [Int32.lt_iff_toInt_lt, show (12288 : Int32).toInt = 12288 from by decide]; omega
  have f4 : (191 : Int32) < q1 := by rw [Int32.lt_iff_toInt_lt, show (191 : Int32).toInt = 191 from by decide]; omega
  have f5 : (214 : Int32) < q1 := by rw [Int32.lt_iff_toInt_lt, show (214 : Int32).toInt = 214 from by decide]; omega
  have f6 : (246 : Int32) < q1 := by rw [Int32.lt_iff_toInt_lt, show (246 : Int32).toInt = 246 from by decide]; omega
  have f7 : ¬ (55295 : Int32) < q1 := by rw [Int32.lt_iff_toInt_lt, show (55295 : Int32).toInt = 55295 from by decide]; omega
  have f8 : ¬ (63743 : Int32) < q1 := by rw [Int32.lt_iff_toInt_lt, show (63743 : Int32).toInt = 63743 from by decide]; omega
  have f9 : ¬ (64975 : Int32) < q1 := by rw [Int32.lt_iff_toInt_lt, show (64975 : Int32).toInt = 64975 from by decide]; omega
  have f10 : ¬ (65007 : Int32) < q1 := by rw [Int32.lt_iff_toInt_lt, show (65007 : Int32).toInt = 65007 from by decide]; omega
  have f11 : ¬ (65533 : Int32) < q1 := by rw [Int32.lt_iff_toInt_lt, show (65533 : Int32).toInt = 65533 from by decide]; omega
  have f12 : ¬ (65535 : Int32) < q1 := by rw [Int32.lt_iff_toInt_lt, show (65535 : Int32).toInt = 65535 from by decide]; omega
  have f13 : (767 : Int32) < q1 := by rw [Int32.lt_iff_toInt_lt, show (767 : Int32).toInt = 767 from by decide]; omega
  have f14 : (8191 : Int32) < q1 := by rw [Int32.lt_iff_toInt_lt, show (8191 : Int32).toInt = 8191 from by decide]; omega
  have f15 : ¬ (8203 : Int32) < q1 := by rw [Int32.lt_iff_toInt_lt, show (8203 : Int32).toInt = 8203 from by decide]; omega
  have f16 : ¬ (8205 : Int32) < q1 := by rw [Int32.lt_iff_toInt_lt, show (8205 : Int32).toInt = 8205 from by decide]; omega
  have f17 : ¬ (8303 : Int32) < q1 := by rw [Int32.lt_iff_toInt_lt, show (8303 : Int32).toInt = 8303 from by decide]; omega
  have f18 : ¬ (8591 : Int32) < q1 := by rw [Int32.lt_iff_toInt_lt, show (8591 : Int32).toInt = 8591 from by decide]; omega
  have f19 : (879 : Int32) < q1 := by rw [Int32.lt_iff_toInt_lt, show (879 : Int32).toInt = 879 from by decide]; omega
  have f20 : (893 : Int32) < q1 := by rw [Int32.lt_iff_toInt_lt, show (893 : Int32).toInt = 893 from by decide]; omega
  have f21 : (90 : Int32) < q1 := by rw [Int32.lt_iff_toInt_lt, show (90 : Int32).toInt = 90 from by decide]; omega
  have f22 : ¬ (983039 : Int32) < q1 := by rw [Int32.lt_iff_toInt_lt, show (983039 : Int32).toInt = 983039 from by decide]; omega
  have f23 : q1 < (11264 : Int32) := by rw [Int32.lt_iff_toInt_lt, show (11264 : Int32).toInt = 11264 from by decide]; omega
  have f24 : q1 < (12272 : Int32) := by rw [Int32.lt_iff_toInt_lt, show (12272 : Int32).toInt = 12272 from by decide]; omega
  have f25 : q1 < (12289 : Int32) := by rw [Int32.lt_iff_toInt_lt, show (12289 : Int32).toInt = 12289 from by decide]; omega
  have f26 : ¬ q1 < (128 : Int32) := by rw [Int32.lt_iff_toInt_lt, show (128 : Int32).toInt = 128 from by decide]; omega
  have f27 : ¬ q1 < (192 : Int32) := by rw [Int32.lt_iff_toInt_lt, show (192 : Int32).toInt = 192 from by decide]; omega
  have f28 : ¬ q1 < (216 : Int32) := by rw [Int32.lt_iff_toInt_lt, show (216 : Int32).toInt = 216 from by decide]; omega
  have f29 : ¬ q1 < (248 : Int32) := by rw [Int32.lt_iff_toInt_lt, show (248 : Int32).toInt = 248 from by decide]; omega
  have f30 : q1 < (55296 : Int32) := by rw [Int32.lt_iff_toInt_lt, show (55296 : Int32).toInt = 55296 from by decide]; omega
  have f31 : q1 < (63744 : Int32) := by rw [Int32.lt_iff_toInt_lt, show (63744 : Int32).toInt = 63744 from by decide]; omega
  have f32 : q1 < (64976 : Int32) := by rw [Int32.lt_iff_toInt_lt, show (64976 : Int32).toInt = 64976 from by decide]; omega
  have f33 : ¬ q1 < (65 : Int32) := by rw [Int32.lt_iff_toInt_lt, show (65 : Int32).toInt = 65 from by decide]; omega
  have f34 : q1 < (65008 : Int32) := by rw [Int32.lt_iff_toInt_lt, show (65008 : Int32).toInt = 65008 from by decide]; omega
  have f35 : q1 < (65534 : Int32) := by rw [Int32.lt_iff_toInt_lt, show (65534 : Int32).toInt = 65534 from by decide]; omega
  have f36 : q1 < (65536 : Int32) := by rw [Int32.lt_iff_toInt_lt, show (65536 : Int32).toInt = 65536 from by decide]; omega
  have f37 : ¬ q1 < (768 : Int32) := by rw [Int32.lt_iff_toInt_lt, show (768 : Int32).toInt = 768 from by decide]; omega
  have f38 : ¬ q1 < (8192 : Int32) := by rw [Int32.lt_iff_toInt_lt, show (8192 : Int32).toInt = 8192 from by decide]; omega
  have f39 : q1 < (8204 : Int32) := by rw [Int32.lt_iff_toInt_lt, show (8204 : Int32).toInt = 8204 from by decide]; omega
  have f40 : q1 < (8206 : Int32) := by rw [Int32.lt_iff_toInt_lt, show (8206 : Int32).toInt = 8206 from by decide]; omega
  have f41 : q1 < (8304 : Int32) := by rw [Int32.lt_iff_toInt_lt, show (8304 : Int32).toInt = 8304 from by decide]; omega
  have f42 : q1 < (8592 : Int32) := by rw [Int32.lt_iff_toInt_lt, show (8592 : Int32).toInt = 8592 from by decide]; omega
  have f43 : ¬ q1 < (880 : Int32) := by rw [Int32.lt_iff_toInt_lt, show (880 : Int32).toInt = 880 from by decide]; omega
  have f44 : ¬ q1 < (895 : Int32) := by rw [Int32.lt_iff_toInt_lt, show (895 : Int32).toInt = 895 from by decide]; omega
  have f45 : ¬ q1 < (97 : Int32) := by rw [Int32.lt_iff_toInt_lt, show (97 : Int32).toInt = 97 from by decide]; omega
  have f46 : q1 < (983040 : Int32) := by rw [Int32.lt_iff_toInt_lt, show (983040 : Int32).toInt = 983040 from by decide]; omega
  have f47 : ¬ q1 = (215 : Int32) := by intro q; rw [q, show (215 : Int32).toInt = 215 from by decide] at h1 h2; omega
  have f48 : ¬ q1 = (247 : Int32) := by intro q; rw [q, show (247 : Int32).toInt = 247 from by decide] at h1 h2; omega
  have f49 : ¬ q1 = (58 : Int32) := by intro q; rw [q, show (58 : Int32).toInt = 58 from by decide] at h1 h2; omega
  have f50 : ¬ q1 = (894 : Int32) := by intro q; rw [q, show (894 : Int32).toInt = 894 from by decide] at h1 h2; omega
  have f51 : ¬ q1 = (95 : Int32) := by intro q; rw [q, show (95 : Int32).toInt = 95 from by decide] at h1 h2; omega
  simp [nb3_0, nb3_21, nb3_23, nb3_37, nb3_51, nb3_65, nb3_79, nb3_93, nb3_107, nb3_121, nb3_135, nb3_148, nb3_160, nb3_172, nb3_184, nb3_188, nb4_0, nb4_19, nb4_31, nb4_43, nb4_47, nb4_49, nb4_84, nb4_105, nb4_119, nb4_133, nb4_147, nb4_159, nb4_171, nb4_183, nb4_189, nb4_193, nb4_203, f0, f1, f2, f3, f4, f5, f6, f7, f8, f9, f10, f11, f12, f13, f14, f15, f16, f17, f18, f19, f20, f21, f22, f23, f24, f25, f26, f27, f28, f29, f30, f31, f32, f33, f34, f35, f36, f37, f38, f39, f40, f41, f42, f43, f44, f45, f46, f47, f48, f49, f50, f51]
theorem own_leaf11 (q1 : Int32) (h1 : 8204 ≤ q1.toInt) (h2 : q1.toInt < 8206) : nb3_0 q1 = nb4_0 q1 := by
  have f0 : ¬ (11263 : Int32) < q1 := by rw [Int32.lt_iff_toInt_lt, show (11263 : Int32).toInt = 11263 from by decide]; omega
  have f1 : (122 : Int32) < q1 := by rw [Int32.lt_iff_toInt_lt, show (122 : Int32).toInt = 122 from by decide]; omega
  have f2 : ¬ (12271 : Int32) < q1 := by rw [Int32.lt_iff_toInt_lt, show (12271 : Int32).toInt = 12271 from by decide]; omega
  have f3 : ¬ (12288 : Int32) < q1 := by rw [Int32.lt_iff_toInt_lt, show (12288 : Int32).toInt = 12288 from by decide]; omega
  have f4 : (191 : Int32) < q1 := by rw [Int32.lt_iff_toInt_lt, show (191 : Int32).toInt = 191 from by decide]; omega
  have f5 : (214 : Int32) < q1 := by rw [Int32.lt_iff_toInt_lt, show (214 : Int32).toInt = 214 from by decide]; omega
  have f6 : (246 : Int32) < q1 := by rw [Int32.lt_iff_toInt_lt, show (246 : Int32).toInt = 246 from by decide]; omega
  have f7 : ¬ (55295 : Int32) < q1 := by rw [Int32.lt_iff_toInt_lt, show (55295 : Int32).toInt = 55295 from by decide]; omega
  have f8 : ¬ (63743 : Int32) < q1 := by rw [Int32.lt_iff_toInt_lt, show (63743 : Int32).toInt = 63743 from by decide]; omega
  have f9 : ¬ (64975 : Int32) < q1 := by rw [Int32.lt_iff_toInt_lt, show (64975 : Int32).toInt = 64975 from by decide]; omega
  have f10 : ¬ (65007 : Int32) < q1 := by rw [Int32.lt_iff_toInt_lt, show (65007 : Int32).toInt = 65007 from by decide]; omega
  have f11 : ¬ (65533 : Int32) < q1 := by rw [Int32.lt_iff_toInt_lt, show (65533 : Int32).toInt = 65533 from by decide]; omega
  have f12 : ¬ (65535 : Int32) < q1 := by rw [Int32.lt_iff_toInt_lt, show (65535 : Int32).toInt = 65535 from by decide]; omega
  have f13 : (767 : Int32) < q1 := by rw [Int32.lt_iff_toInt_lt, show (767 : Int32).toInt = 767 from by decide]; omega
  have f14 : (8191 : Int32) < q1 := by rw [Int32.lt_iff_toInt_lt, show (8191 : Int32).toInt = 8191 from by decide]; omega
  have f15 : (8203 : Int32) < q1 := by rw [Int32.lt_iff_toInt_lt, show (8203 : Int32).toInt = 8203 from by decide]; omega
  have f16 : ¬ (8205 : Int32) < q1 := by rw [Int32.lt_iff_toInt_lt, show (8205 : Int32).toInt = 8205 from by decide]; omega
  have f17 : ¬ (8303 : Int32) < q1 := by rw [Int32.lt_iff_toInt_lt, show (8303 : Int32).toInt = 8303 from by decide]; omega
  have f18 : ¬ (8591 : Int32) < q1 := by rw [Int32.lt_iff_toInt_lt, show (8591 : Int32).toInt = 8591 from by decide]; omega
  have f19 : (879 : Int32) < q1 := by rw [Int32.lt_iff_toInt_lt, show (879 : Int32).toInt = 879 from by decide]; omega
  have f20 : (893 : Int32) < q1 := by rw [Int32.lt_iff_toInt_lt, show (893 : Int32).toInt = 893 from by decide]; omega
  have f21 : (90 : Int32) < q1 := by rw [Int32.lt_iff_toInt_lt, show (90 : Int32).toInt = 90 from by decide]; omega
  have f22 : ¬ (983039 : Int32) < q1 := by rw [Int32.lt_iff_toInt_lt, show (983039 : Int32).toInt = 983039 from by decide]; omega
  have f23 : q1 < (11264 : Int32) := by rw [Int32.lt_iff_toInt_lt, show (11264 : Int32).toInt = 11264 from by decide]; omega
  have f24 : q1 < (12272 : Int32) := by rw [Int32.lt_iff_toInt_lt, show (12272 : Int32).toInt = 12272 from by decide]; omega
  have f25 : q1 < (12289 : Int32) := by rw [Int32.lt_iff_toInt_lt, show (12289 : Int32).toInt = 12289 from by decide]; omega
  have f26 : ¬ q1 < (128 : Int32) := by rw [Int32.lt_iff_toInt_lt, show (128 : Int32).toInt = 128 from by decide]; omega
  have f27 : ¬ q1 < (192 : Int32) := by rw [Int32.lt_iff_toInt_lt, show (192 : Int32).toInt = 192 from by decide]; omega
  have f28 : ¬ q1 < (216 : Int32) := by rw [Int32.lt_iff_toInt_lt, show (216 : Int32).toInt = 216 from by decide]; omega
  have f29 : ¬ q1 < (248 : Int32) := by rw [Int32.lt_iff_toInt_lt, show (248 : Int32).toInt = 248 from by decide]; omega
  have f30 : q1 < (55296 : Int32) := by rw [Int32.lt_iff_toInt_lt, show (55296 : Int32).toInt = 55296 from by decide]; omega
  have f31 : q1 < (63744 : Int32) := by rw [Int32.lt_iff_toInt_lt, show (63744 : Int32).toInt = 63744 from by decide]; omega
  have f32 : q1 < (64976 : Int32) := by rw [Int32.lt_iff_toInt_lt, show (64976 : Int32).toInt = 64976 from by decide]; omega
  have f33 : ¬ q1 < (65 : Int32) := by rw [Int32.lt_iff_toInt_lt, show (65 : Int32).toInt = 65 from by decide]; omega
  have f34 : q1 < (65008 : Int32) := by rw [Int32.lt_iff_toInt_lt, show (65008 : Int32).toInt = 65008 from by decide]; omega
  have f35 : q1 < (65534 : Int32) := by rw [Int32.lt_iff_toInt_lt, show (65534 : Int32).toInt = 65534 from by decide]; omega
  have f36 : q1 < (65536 : Int32) := by rw [Int32.lt_iff_toInt_lt, show (65536 : Int32).toInt = 65536 from by decide]; omega
  have f37 : ¬ q1 < (768 : Int32) := by rw [Int32.lt_iff_toInt_lt, show (768 : Int32).toInt = 768 from by decide]; omega
  have f38 : ¬ q1 < (8192 : Int32) := by rw [Int32.lt_iff_toInt_lt, show (8192 : Int32).toInt = 8192 from by decide]; omega
  have f39 : ¬ q1 < (8204 : Int32) := by rw [Int32.lt_iff_toInt_lt, show (8204 : Int32).toInt = 8204 from by decide]; omega
  have f40 : q1 < (8206 : Int32) := by rw [Int32.lt_iff_toInt_lt, show (8206 : Int32).toInt = 8206 from by decide]; omega
  have f41 : q1 < (8304 : Int32) := by rw [Int32.lt_iff_toInt_lt, show (8304 : Int32).toInt = 8304 from by decide]; omega
  have f42 : q1 < (8592 : Int32) := by rw [Int32.lt_iff_toInt_lt, show (8592 : Int32).toInt = 8592 from by decide]; omega
  have f43 : ¬ q1 < (880 : Int32) := by rw [Int32.lt_iff_toInt_lt, show (880 : Int32).toInt = 880 from by decide]; omega
  have f44 : ¬ q1 < (895 : Int32) := by rw [Int32.lt_iff_toInt_lt, show (895 : Int32).toInt = 895 from by decide]; omega
  have f45 : ¬ q1 < (97 : Int32) := by rw [Int32.lt_iff_toInt_lt, show (97 : Int32).toInt = 97 from by decide]; omega
  have f46 : q1 < (983040 : Int32) := by rw [Int32.lt_iff_toInt_lt, show (983040 : Int32).toInt = 983040 from by decide]; omega
  have f47 : ¬ q1 = (215 : Int32) := by intro q; rw [q, show (215 : Int32).toInt = 215 from by decide] at h1 h2; omega
  have f48 : ¬ q1 = (247 : Int32) := by intro q; rw [q, show (247 : Int32).toInt = 247 from by decide] at h1 h2; omega
  have f49 : ¬ q1 = (58 : Int32) := by intro q; rw [q, show (58 : Int32).toInt = 58 from by decide] at h1 h2; omega
  have f50 : ¬ q1 = (894 : Int32) := by intro q; rw [q, show (894 : Int32).toInt = 894 from by decide] at h1 h2; omega
  have f51 : ¬ q1 = (95 : Int32) := by intro q; rw [q, show (95 : Int32).toInt = 95 from by decide] at h1 h2; omega
  simp [nb3_0, nb3_21, nb3_23, nb3_37, nb3_51, nb3_65, nb3_79, nb3_93, nb3_107, nb3_121, nb3_135, nb3_148, nb3_160, nb3_172, nb3_184, nb3_188, nb4_0, nb4_19, nb4_31, nb4_43, nb4_47, nb4_49, nb4_84, nb4_105, nb4_119, nb4_133, nb4_147, nb4_159, nb4_171, nb4_183, nb4_189, nb4_193, nb4_203, f0, f1, f2, f3, f4, f5, f6, f7, f8, f9, f10, f11, f12, f13, f14, f15, f16, f17, f18, f19, f20, f21, f22, f23, f24, f25, f26, f27, f28, f29, f30, f31, f32, f33, f34, f35, f36, f37, f38, f39, f40, f41, f42, f43, f44, f45, f46, f47, f48, f49, f50, f51]
theorem own_leaf12 (q1 : Int32) (h1 : 8206 ≤ q1.toInt) (h2 : q1.toInt < 8304) : nb3_0 q1 = nb4_0 q1 := by
  have f0 : ¬ (11263 : Int32) < q1 := by rw [Int32.lt_iff_toInt_lt, show (11263 : Int32).toInt = 11263 from by decide]; omega
  have f1 : (122 : Int32) < q1 := by rw [Int32.lt_iff_toInt_lt, show (122 : Int32).toInt = 122 from by decide]; omega
  have f2 : ¬ (12271 : Int32) < q1 := by rw [Int32.lt_iff_toInt_lt, show (12271 : Int32).toInt = 12271 from by decide]; omega
  have f3 : ¬ (12288 : Int32) < q1 := by rw [Int32.lt_iff_toInt_lt, show (12288 : Int32).toInt = 12288 from by decide]; omega
  have f4 : (191 : Int32) < q1 := by rw [Int32.lt_iff_toInt_lt, show (191 : Int32).toInt = 191 from by decide]; omega
  have f5 : (214 : Int32) < q1 := by rw [Int32.lt_iff_toInt_lt, show (214 : Int32).toInt = 214 from by decide]; omega
  have f6 : (246 : Int32) < q1 := by rw [Int32.lt_iff_toInt_lt, show (246 : Int32).toInt = 246 from by decide]; omega
  have f7 : ¬ (55295 : Int32) < q1 := by rw [Int32.lt_iff_toInt_lt, show (55295 : Int32).toInt = 55295 from by decide]; omega
  have f8 : ¬ (63743 : Int32) < q1 := by rw [Int32.lt_iff_toInt_lt, show (63743 : Int32).toInt = 63743 from by decide]; omega
  have f9 : ¬ (64975 : Int32) < q1 := by rw [Int32.lt_iff_toInt_lt, show (64975 : Int32).toInt = 64975 from by decide]; omega
  have f10 : ¬ (65007 : Int32) < q1 := by rw [Int32.lt_iff_toInt_lt, show (65007 : Int32).toInt = 65007 from by decide]; omega
  have f11 : ¬ (65533 : Int32) < q1 := by rw [Int32.lt_iff_toInt_lt, show (65533 : Int32).toInt = 65533 from by decide]; omega
  have f12 : ¬ (65535 : Int32) < q1 := by rw [Int32.lt_iff_toInt_lt, show (65535 : Int32).toInt = 65535 from by decide]; omega
  have f13 : (767 : Int32) < q1 := by rw [Int32.lt_iff_toInt_lt, show (767 : Int32).toInt = 767 from by decide]; omega
  have f14 : (8191 : Int32) < q1 := by rw [Int32.lt_iff_toInt_lt, show (8191 : Int32).toInt = 8191 from by decide]; omega
  have f15 : (8203 : Int32) < q1 := by rw [Int32.lt_iff_toInt_lt, show (8203 : Int32).toInt = 8203 from by decide]; omega
  have f16 : (8205 : Int32) < q1 := by rw [Int32.lt_iff_toInt_lt, show (8205 : Int32).toInt = 8205 from by decide]; omega
  have f17 : ¬ (8303 : Int32) < q1 := by rw [Int32.lt_iff_toInt_lt, show (8303 : Int32).toInt = 8303 from by decide]; omega
  have f18 : ¬ (8591 : Int32) < q1 := by rw [Int32.lt_iff_toInt_lt, show (8591 : Int32).toInt = 8591 from by decide]; omega
  have f19 : (879 : Int32) < q1 := by rw [Int32.lt_iff_toInt_lt, show (879 : Int32).toInt = 879 from by decide]; omega
  have f20 : (893 : Int32) < q1 := by rw [Int32.lt_iff_toInt_lt, show (893 : Int32).toInt = 893 from by decide]; omega
  have f21 : (90 : Int32) < q1 := by rw [Int32.lt_iff_toInt_lt, show (90 : Int32).toInt = 90 from by decide]; omega
  have f22 : ¬ (983039 : Int32) < q1 := by rw [Int32.lt_iff_toInt_lt, show (983039 : Int32).toInt = 983039 from by decide]; omega
  have f23 : q1 < (11264 : Int32) := by rw [Int32.lt_iff_toInt_lt, show (11264 : Int32).toInt = 11264 from by decide]; omega
  have f24 : q1 < (12272 : Int32) := by rw [Int32.lt_iff_toInt_lt, show (12272 : Int32).toInt = 12272 from by decide]; omega
  have f25 : q1 < (12289 : Int32) := by rw [Int32.lt_iff_toInt_lt, show (12289 : Int32).toInt = 12289 from by decide]; omega
  have f26 : ¬ q1 < (128 : Int32) := by rw [Int32.lt_iff_toInt_lt, show (128 : Int32).toInt = 128 from by decide]; omega
  have f27 : ¬ q1 < (192 : Int32) := by rw [Int32.lt_iff_toInt_lt, show (192 : Int32).toInt = 192 from by decide]; omega
  have f28 : ¬ q1 < (216 : Int32) := by rw [Int32.lt_iff_toInt_lt, show (216 : Int32).toInt = 216 from by decide]; omega
  have f29 : ¬ q1 < (248 : Int32) := by rw [Int32.lt_iff_toInt_lt, show (248 : Int32).toInt = 248 from by decide]; omega
  have f30 : q1 < (55296 : Int32) := by rw [Int32.lt_iff_toInt_lt, show (55296 : Int32).toInt = 55296 from by decide]; omega
  have f31 : q1 < (63744 : Int32) := by rw [Int32.lt_iff_toInt_lt, show (63744 : Int32).toInt = 63744 from by decide]; omega
  have f32 : q1 < (64976 : Int32) := by rw [Int32.lt_iff_toInt_lt, show (64976 : Int32).toInt = 64976 from by decide]; omega
  have f33 : ¬ q1 < (65 : Int32) := by rw [Int32.lt_iff_toInt_lt, show (65 : Int32).toInt = 65 from by decide]; omega
  have f34 : q1 < (65008 : Int32) := by rw [Int32.lt_iff_toInt_lt, show (65008 : Int32).toInt = 65008 from by decide]; omega
  have f35 : q1 < (65534 : Int32) := by rw [Int32.lt_iff_toInt_lt, show (65534 : Int32).toInt = 65534 from by decide]; omega
  have f36 : q1 < (65536 : Int32) := by rw [Int32.lt_iff_toInt_lt, show (65536 : Int32).toInt = 65536 from by decide]; omega
  have f37 : ¬ q1 < (768 : Int32) := by rw [Int32.lt_iff_toInt_lt, show (768 : Int32).toInt = 768 from by decide]; omega
  have f38 : ¬ q1 < (8192 : Int32) := by rw [Int32.lt_iff_toInt_lt, show (8192 : Int32).toInt = 8192 from by decide]; omega
  have f39 : ¬ q1 < (8204 : Int32) := by rw [Int32.lt_iff_toInt_lt, show (8204 : Int32).toInt = 8204 from by decide]; omega
  have f40 : ¬ q1 < (8206 : Int32) := by rw [Int32.lt_iff_toInt_lt, show (8206 : Int32).toInt = 8206 from by decide]; omega
  have f41 : q1 < (8304 : Int32) := by rw [Int32.lt_iff_toInt_lt, show (8304 : Int32).toInt = 8304 from by decide]; omega
  have f42 : q1 < (8592 : Int32) := by rw [Int32.lt_iff_toInt_lt, show (8592 : Int32).toInt = 8592 from by decide]; omega
  have f43 : ¬ q1 < (880 : Int32) := by rw [Int32.lt_iff_toInt_lt, show (880 : Int32).toInt = 880 from by decide]; omega
  have f44 : ¬ q1 < (895 : Int32) := by rw [Int32.lt_iff_toInt_lt, show (895 : Int32).toInt = 895 from by decide]; omega
  have f45 : ¬ q1 < (97 : Int32) := by rw [Int32.lt_iff_toInt_lt, show (97 : Int32).toInt = 97 from by decide]; omega
  have f46 : q1 < (983040 : Int32) := by rw [Int32.lt_iff_toInt_lt, show (983040 : Int32).toInt = 983040 from by decide]; omega
  have f47 : ¬ q1 = (215 : Int32) := by intro q; rw [q, show (215 : Int32).toInt = 215 from by decide] at h1 h2; omega
  have f48 : ¬ q1 = (247 : Int32) := by intro q; rw [q, show (247 : Int32).toInt = 247 from by decide] at h1 h2; omega
  have f49 : ¬ q1 = (58 : Int32) := by intro q; rw [q, show (58 : Int32).toInt = 58 from by decide] at h1 h2; omega
  have f50 : ¬ q1 = (894 : Int32) := by intro q; rw [q, show (894 : Int32).toInt = 894 from by decide] at h1 h2; omega
  have f51 : ¬ q1 = (95 : Int32) := by intro q; rw [q, show (95 : Int32).toInt = 95 from by decide] at h1 h2; omega
  simp [nb3_0, nb3_21, nb3_23, nb3_37, nb3_51, nb3_65, nb3_79, nb3_93, nb3_107, nb3_121, nb3_135, nb3_148, nb3_160, nb3_172, nb3_184, nb3_188, nb4_0, nb4_19, nb4_31, nb4_43, nb4_47, nb4_49, nb4_84, nb4_105, nb4_119, nb4_133, nb4_147, nb4_159, nb4_171, nb4_183, nb4_189, nb4_193, nb4_203, f0, f1, f2, f3, f4, f5, f6, f7, f8, f9, f10, f11, f12, f13, f14, f15, f16, f17, f18, f19, f20, f21, f22, f23, f24, f25, f26, f27, f28, f29, f30, f31, f32, f33, f34, f35, f36, f37, f38, f39, f40, f41, f42, f43, f44, f45, f46, f47, f48, f49, f50, f51]
theorem own_leaf13 (q1 : Int32) (h1 : 8304 ≤ q1.toInt) (h2 : q1.toInt < 8592) : nb3_0 q1 = nb4_0 q1 := by
  have f0 : ¬ (11263 : Int32) < q1 := by rw [Int32.lt_iff_toInt_lt, show (11263 : Int32).toInt = 11263 from by decide]; omega
  have f1 : (122 : Int32) < q1 := by rw [Int32.lt_iff_toInt_lt, show (122 : Int32).toInt = 122 from by decide]; omega
  have f2 : ¬ (12271 : Int32) < q1 := by rw [Int32.lt_iff_toInt_lt, show (12271 : Int32).toInt = 12271 from by decide]; omega
  have f3 : ¬ (12288 : Int32) < q1 := by rw [Int32.lt_iff_toInt_lt, show (12288 : Int32).toInt = 12288 from by decide]; omega
  have f4 : (191 : Int32) < q1 := by rw [Int32.lt_iff_toInt_lt, show (191 : Int32).toInt = 191 from by decide]; omega
  have f5 : (214 : Int32) < q1 := by rw [Int32.lt_iff_toInt_lt, show (214 : Int32).toInt = 214 from by decide]; omega
  have f6 : (246 : Int32) < q1 := by rw [Int32.lt_iff_toInt_lt, show (246 : Int32).toInt = 246 from by decide]; omega
  have f7 : ¬ (55295 : Int32) < q1 := by rw [Int32.lt_iff_toInt_lt, show (55295 : Int32).toInt = 55295 from by decide]; omega
  have f8 : ¬ (63743 : Int32) < q1 := by rw [Int32.lt_iff_toInt_lt, show (63743 : Int32).toInt = 63743 from by decide]; omega
  have f9 : ¬ (64975 : Int32) < q1 := by rw [Int32.lt_iff_toInt_lt, show (64975 : Int32).toInt = 64975 from by decide]; omega
  have f10 : ¬ (65007 : Int32) < q1 := by rw [Int32.lt_iff_toInt_lt, show (65007 : Int32).toInt = 65007 from by decide]; omega
  have f11 : ¬ (65533 : Int32) < q1 := by rw [Int32.lt_iff_toInt_lt, show (65533 : Int32).toInt = 65533 from by decide]; omega
  have f12 : ¬ (65535 : Int32) < q1 := by rw [Int32.lt_iff_toInt_lt, show (65535 : Int32).toInt = 65535 from by decide]; omega
  have f13 : (767 : Int32) < q1 := by rw [Int32.lt_iff_toInt_lt, show (767 : Int32).toInt = 767 from by decide]; omega
  have f14 : (8191 : Int32) < q1 := by rw [Int32.lt_iff_toInt_lt, show (8191 : Int32).toInt = 8191 from by decide]; omega
  have f15 : (8203 : Int32) < q1 := by rw [Int32.lt_iff_toInt_lt, show (8203 : Int32).toInt = 8203 from by decide]; omega
  have f16 : (8205 : Int32) < q1 := by rw [Int32.lt_iff_toInt_lt, show (8205 : Int32).toInt = 8205 from by decide]; omega
  have f17 : (8303 : Int32) < q1 := by rw [Int32.lt_iff_toInt_lt, show (8303 : Int32).toInt = 8303 from by decide]; omega
  have f18 : ¬ (8591 : Int32) < q1 := by rw [Int32.lt_iff_toInt_lt, show (8591 : Int32).toInt = 8591 from by decide]; omega
  have f19 : (879 : Int32) < q1 := by rw [Int32.lt_iff_toInt_lt, show (879 : Int32).toInt = 879 from by decide]; omega
  have f20 : (893 : Int32) < q1 := by rw [Int32.lt_iff_toInt_lt, show (893 : Int32).toInt = 893 from by decide]; omega
  have f21 : (90 : Int32) < q1 := by rw [Int32.lt_iff_toInt_lt, show (90 : Int32).toInt = 90 from by decide]; omega
  have f22 : ¬ (983039 : Int32) < q1 := by rw [Int32.lt_iff_toInt_lt, show (983039 : Int32).toInt = 983039 from by decide]; omega
  have f23 : q1 < (11264 : Int32) := by rw [Int32.lt_iff_toInt_lt, show (11264 : Int32).toInt = 11264 from by decide]; omega
  have f24 : q1 < (12272 : Int32) := by rw [Int32.lt_iff_toInt_lt, show (12272 : Int32).toInt = 12272 from by decide]; omega
  have f25 : q1 < (12289 : Int32) := by rw [Int32.lt_iff_toInt_lt, show (12289 : Int32).toInt = 12289 from by decide]; omega
  have f26 : ¬ q1 < (128 : Int32) := by rw [Int32.lt_iff_toInt_lt, show (128 : Int32).toInt = 128 from by decide]; omega
  have f27 : ¬ q1 < (192 : Int32) := by rw [Int32.lt_iff_toInt_lt, show (192 : Int32).toInt = 192 from by decide]; omega
  have f28 : ¬ q1 < (216 : Int32) := by rw [Int32.lt_iff_toInt_lt, show (216 : Int32).toInt = 216 from by decide]; omega
  have f29 : ¬ q1 < (248 : Int32) := by rw [Int32.lt_iff_toInt_lt, show (248 : Int32).toInt = 248 from by decide]; omega
  have f30 : q1 < (55296 : Int32) := by rw [Int32.lt_iff_toInt_lt, show (55296 : Int32).toInt = 55296 from by decide]; omega
  have f31 : q1 < (63744 : Int32) := by rw [Int32.lt_iff_toInt_lt, show (63744 : Int32).toInt = 63744 from by decide]; omega
  have f32 : q1 < (64976 : Int32) := by rw [Int32.lt_iff_toInt_lt, show (64976 : Int32).toInt = 64976 from by decide]; omega
  have f33 : ¬ q1 < (65 : Int32) := by rw [Int32.lt_iff_toInt_lt, show (65 : Int32).toInt = 65 from by decide]; omega
  have f34 : q1 < (65008 : Int32) := by rw [Int32.lt_iff_toInt_lt, show (65008 : Int32).toInt = 65008 from by decide]; omega
  have f35 : q1 < (65534 : Int32) := by rw [Int32.lt_iff_toInt_lt, show (65534 : Int32).toInt = 65534 from by decide]; omega
  have f36 : q1 < (65536 : Int32) := by rw [Int32.lt_iff_toInt_lt, show (65536 : Int32).toInt = 65536 from by decide]; omega
  have f37 : ¬ q1 < (768 : Int32) := by rw [Int32.lt_iff_toInt_lt, show (768 : Int32).toInt = 768 from by decide]; omega
  have f38 : ¬ q1 < (8192 : Int32) := by rw [Int32.lt_iff_toInt_lt, show (8192 : Int32).toInt = 8192 from by decide]; omega
  have f39 : ¬ q1 < (8204 : Int32) := by rw [Int32.lt_iff_toInt_lt, show (8204 : Int32).toInt = 8204 from by decide]; omega
  have f40 : ¬ q1 < (8206 : Int32) := by rw [Int32.lt_iff_toInt_lt, show (8206 : Int32).toInt = 8206 from by decide]; omega
  have f41 : ¬ q1 < (8304 : Int32) := by rw [Int32.lt_iff_toInt_lt, show (8304 : Int32).toInt = 8304 from by decide]; omega
  have f42 : q1 < (8592 : Int32) := by rw [Int32.lt_iff_toInt_lt, show (8592 : Int32).toInt = 8592 from by decide]; omega
  have f43 : ¬ q1 < (880 : Int32) := by rw [Int32.lt_iff_toInt_lt, show (880 : Int32).toInt = 880 from by decide]; omega
  have f44 : ¬ q1 < (895 : Int32) := by rw [Int32.lt_iff_toInt_lt, show (895 : Int32).toInt = 895 from by decide]; omega
  have f45 : ¬ q1 < (97 : Int32) := by rw [Int32.lt_iff_toInt_lt, show (97 : Int32).toInt = 97 from by decide]; omega
  have f46 : q1 < (983040 : Int32) := by rw [Int32.lt_iff_toInt_lt, show (983040 : Int32).toInt = 983040 from by decide]; omega
  have f47 : ¬ q1 = (215 : Int32) := by intro q; rw [q, show (215 : Int32).toInt = 215 from by decide] at h1 h2; omega
  have f48 : ¬ q1 = (247 : Int32) := by intro q; rw [q, show (247 : Int32).toInt = 247 from by decide] at h1 h2; omega
  have f49 : ¬ q1 = (58 : Int32) := by intro q; rw [q, show (58 : Int32).toInt = 58 from by decide] at h1 h2; omega
  have f50 : ¬ q1 = (894 : Int32) := by intro q; rw [q, show (894 : Int32).toInt = 894 from by decide] at h1 h2; omega
  have f51 : ¬ q1 = (95 : Int32) := by intro q; rw [q, show (95 : Int32).toInt = 95 from by decide] at h1 h2; omega
  simp [nb3_0, nb3_21, nb3_23, nb3_37, nb3_51, nb3_65, nb3_79, nb3_93, nb3_107, nb3_121, nb3_135, nb3_148, nb3_160, nb3_172, nb3_184, nb3_188, nb4_0, nb4_19, nb4_31, nb4_43, nb4_47, nb4_49, nb4_84, nb4_105, nb4_119, nb4_133, nb4_147, nb4_159, nb4_171, nb4_183, nb4_189, nb4_193, nb4_203, f0, f1, f2, f3, f4, f5, f6, f7, f8, f9, f10, f11, f12, f13, f14, f15, f16, f17, f18, f19, f20, f21, f22, f23, f24, f25, f26, f27, f28, f29, f30, f31, f32, f33, f34, f35, f36, f37, f38, f39, f40, f41, f42, f43, f44, f45, f46, f47, f48, f49, f50, f51]
theorem own_leaf14 (q1 : Int32) (h1 : 8592 ≤ q1.toInt) (h2 : q1.toInt < 11264) : nb3_0 q1 = nb4_0 q1 := by
  have f0 : ¬ (11263 : Int32) < q1 := by rw [Int32.lt_iff_toInt_lt, show (11263 : Int32).toInt = 11263 from by decide]; omega
  have f1 : (122 : Int32) < q1 := by rw [Int32.lt_iff_toInt_lt, show (122 : Int32).toInt = 122 from by decide]; omega
  have f2 : ¬ (12271 : Int32) < q1 := by rw [Int32.lt_iff_toInt_lt, show (12271 : Int32).toInt = 12271 from by decide]; omega
  have f3 : ¬ (12288 : Int32) < q1 := by rw [Int32.lt_iff_toInt_lt, show (12288 : Int32).toInt = 12288 from by decide]; omega
  have f4 : (191 : Int32) < q1 := by rw [Int32.lt_iff_toInt_lt, show (191 : Int32).toInt = 191 from by decide]; omega
  have f5 : (214 : Int32) < q1 := by rw [Int32.lt_iff_toInt_lt, show (214 : Int32).toInt = 214 from by decide]; omega
  have f6 : (246 : Int32) < q1 := by rw [Int32.lt_iff_toInt_lt, show (246 : Int32).toInt = 246 from by decide]; omega
  have f7 : ¬ (55295 : Int32) < q1 := by rw [Int32.lt_iff_toInt_lt, show (55295 : Int32).toInt = 55295 from by decide]; omega
  have f8 : ¬ (63743 : Int32) < q1 := by rw [Int32.lt_iff_toInt_lt, show (63743 : Int32).toInt = 63743 from by decide]; omega
  have f9 : ¬ (64975 : Int32) < q1 := by rw [Int32.lt_iff_toInt_lt, show (64975 : Int32).toInt = 64975 from by decide]; omega
  have f10 : ¬ (65007 : Int32) < q1 := by rw [Int32.lt_iff_toInt_lt, show (65007 : Int32).toInt = 65007 from by decide]; omega
  have f11 : ¬ (65533 : Int32) < q1 := by rw [Int32.lt_iff_toInt_lt, show (65533 : Int32).toInt = 65533 from by decide]; omega
  have f12 : ¬ (65535 : Int32) < q1 := by rw [Int32.lt_iff_toInt_lt, show (65535 : Int32).toInt = 65535 from by decide]; omega
  have f13 : (767 : Int32) < q1 := by rw [Int32.lt_iff_toInt_lt, show (767 : Int32).toInt = 767 from by decide]; omega
  have f14 : (8191 : Int32) < q1 := by rw [Int32.lt_iff_toInt_lt, show (8191 : Int32).toInt = 8191 from by decide]; omega
  have f15 : (8203 : Int32) < q1 := by rw [Int32.lt_iff_toInt_lt, show (8203 : Int32).toInt = 8203 from by decide]; omega
  have f16 : (8205 : Int32) < q1 := by rw [Int32.lt_iff_toInt_lt, show (8205 : Int32).toInt = 8205 from by decide]; omega
  have f17 : (8303 : Int32) < q1 := by rw [Int32.lt_iff_toInt_lt, show (8303 : Int32).toInt = 8303 from by decide]; omega
  have f18 : (8591 : Int32) < q1 := by rw [Int32.lt_iff_toInt_lt, show (8591 : Int32).toInt = 8591 from by decide]; omega
  have f19 : (879 : Int32) < q1 := by rw [Int32.lt_iff_toInt_lt, show (879 : Int32).toInt = 879 from by decide]; omega
  have f20 : (893 : Int32) < q1 := by rw [Int32.lt_iff_toInt_lt, show (893 : Int32).toInt = 893 from by decide]; omega
  have f21 : (90 : Int32) < q1 := by rw [Int32.lt_iff_toInt_lt, show (90 : Int32).toInt = 90 from by decide]; omega
  have f22 : ¬ (983039 : Int32) < q1 := by rw [Int32.lt_iff_toInt_lt, show (983039 : Int32).toInt = 983039 from by decide]; omega
  have f23 : q1 < (11264 : Int32) := by rw [Int32.lt_iff_toInt_lt, show (11264 : Int32).toInt = 11264 from by decide]; omega
  have f24 : q1 < (12272 : Int32) := by rw [Int32.lt_iff_toInt_lt, show (12272 : Int32).toInt = 12272 from by decide]; omega
  have f25 : q1 < (12289 : Int32) := by rw [Int32.lt_iff_toInt_lt, show (12289 : Int32).toInt = 12289 from by decide]; omega
  have f26 : ¬ q1 < (128 : Int32) := by rw [Int32.lt_iff_toInt_lt, show (128 : Int32).toInt = 128 from by decide]; omega
  have f27 : ¬ q1 < (192 : Int32) := by rw [Int32.lt_iff_toInt_lt, show (192 : Int32).toInt = 192 from by decide]; omega
  have f28 : ¬ q1 < (216 : Int32) := by rw [Int32.lt_iff_toInt_lt, show (216 : Int32).toInt = 216 from by decide]; omega
  have f29 : ¬ q1 < (248 : Int32) := by rw [Int32.lt_iff_toInt_lt, show (248 : Int32).toInt = 248 from by decide]; omega
  have f30 : q1 < (55296 : Int32) := by rw [Int32.lt_iff_toInt_lt, show (55296 : Int32).toInt = 55296 from by decide]; omega
  have f31 : q1 < (63744 : Int32) := by rw [Int32.lt_iff_toInt_lt, show (63744 : Int32).toInt = 63744 from by decide]; omega
  have f32 : q1 < (64976 : Int32) := by rw [Int32.lt_iff_toInt_lt, show (64976 : Int32).toInt = 64976 from by decide]; omega
  have f33 : ¬ q1 < (65 : Int32) := by rw [Int32.lt_iff_toInt_lt, show (65 : Int32).toInt = 65 from by decide]; omega
  have f34 : q1 < (65008 : Int32) := by rw [Int32.lt_iff_toInt_lt, show (65008 : Int32).toInt = 65008 from by decide]; omega
  have f35 : q1 < (65534 : Int32) := by rw [Int32.lt_iff_toInt_lt, show (65534 : Int32).toInt = 65534 from by decide]; omega
  have f36 : q1 < (65536 : Int32) := by rw [Int32.lt_iff_toInt_lt, show (65536 : Int32).toInt = 65536 from by decide]; omega
  have f37 : ¬ q1 < (768 : Int32) := by rw [Int32.lt_iff_toInt_lt, show (768 : Int32).toInt = 768 from by decide]; omega
  have f38 : ¬ q1 < (8192 : Int32) := by rw [Int32.lt_iff_toInt_lt, show (8192 : Int32).toInt = 8192 from by decide]; omega
  have f39 : ¬ q1 < (8204 : Int32) := by rw [Int32.lt_iff_toInt_lt, show (8204 : Int32).toInt = 8204 from by decide]; omega
  have f40 : ¬ q1 < (8206 : Int32) := by rw [Int32.lt_iff_toInt_lt, show (8206 : Int32).toInt = 8206 from by decide]; omega
  have f41 : ¬ q1 < (8304 : Int32) := by rw [Int32.lt_iff_toInt_lt, show (8304 : Int32).toInt = 8304 from by decide]; omega
  have f42 : ¬ q1 < (8592 : Int32) := by rw [Int32.lt_iff_toInt_lt, show (8592 : Int32).toInt = 8592 from by decide]; omega
  have f43 : ¬ q1 < (880 : Int32) := by rw [Int32.lt_iff_toInt_lt, show (880 : Int32).toInt = 880 from by decide]; omega
  have f44 : ¬ q1 < (895 : Int32) := by rw [Int32.lt_iff_toInt_lt, show (895 : Int32).toInt = 895 from by decide]; omega
  have f45 : ¬ q1 < (97 : Int32) := by rw [Int32.lt_iff_toInt_lt, show (97 : Int32).toInt = 97 from by decide]; omega
  have f46 : q1 < (983040 : Int32) := by rw [Int32.lt_iff_toInt_lt, show (983040 : Int32).toInt = 983040 from by decide]; omega
  have f47 : ¬ q1 = (215 : Int32) := by intro q; rw [q, show (215 : Int32).toInt = 215 from by decide] at h1 h2; omega
  have f48 : ¬ q1 = (247 : Int32) := by intro q; rw [q, show (247 : Int32).toInt = 247 from by decide] at h1 h2; omega
  have f49 : ¬ q1 = (58 : Int32) := by intro q; rw [q, show (58 : Int32).toInt = 58 from by decide] at h1 h2; omega
  have f50 : ¬ q1 = (894 : Int32) := by intro q; rw [q, show (894 : Int32).toInt = 894 from by decide] at h1 h2; omega
  have f51 : ¬ q1 = (95 : Int32) := by intro q; rw [q, show (95 : Int32).toInt = 95 from by decide] at h1 h2; omega
  simp [nb3_0, nb3_21, nb3_23, nb3_37, nb3_51, nb3_65, nb3_79, nb3_93, nb3_107, nb3_121, nb3_135, nb3_148, nb3_160, nb3_172, nb3_184, nb3_188, nb4_0, nb4_19, nb4_31, nb4_43, nb4_47, nb4_49, nb4_84, nb4_105, nb4_119, nb4_133, nb4_147, nb4_159, nb4_171, nb4_183, nb4_189, nb4_193, nb4_203, f0, f1, f2, f3, f4, f5, f6, f7, f8, f9, f10, f11, f12, f13, f14, f15, f16, f17, f18, f19, f20, f21, f22, f23, f24, f25, f26, f27, f28, f29, f30, f31, f32, f33, f34, f35, f36, f37, f38, f39, f40, f41, f42, f43, f44, f45, f46, f47, f48, f49, f50, f51]
theorem own_leaf15 (q1 : Int32) (h1 : 11264 ≤ q1.toInt) (h2 : q1.toInt < 12272) : nb3_0 q1 = nb4_0 q1 := by
  have f0 : (11263 : Int32) < q1 := by rw [Int32.lt_iff_toInt_lt, show (11263 : Int32).toInt = 11263 from by decide]; omega
  have f1 : (122 : Int32) < q1 := by rw [Int32.lt_iff_toInt_lt, show (122 : Int32).toInt = 122 from by decide]; omega
  have f2 : ¬ (12271 : Int32) < q1 := by rw [Int32.lt_iff_toInt_lt, show (12271 : Int32).toInt = 12271 from by decide]; omega
  have f3 : ¬ (12288 : Int32) < q1 := by rw [Int32.lt_iff_toInt_lt, show (12288 : Int32).toInt = 12288 from by decide]; omega
  have f4 : (191 : Int32) < q1 := by rw [Int32.lt_iff_toInt_lt, show (191 : Int32).toInt = 191 from by decide]; omega
  have f5 : (214 : Int32) < q1 := by rw [Int32.lt_iff_toInt_lt, show (214 : Int32).toInt = 214 from by decide]; omega
  have f6 : (246 : Int32) < q1 := by rw [Int32.lt_iff_toInt_lt, show (246 : Int32).toInt = 246 from by decide]; omega
  have f7 : ¬ (55295 : Int32) < q1 := by rw [Int32.lt_iff_toInt_lt, show (55295 : Int32).toInt = 55295 from by decide]; omega
  have f8 : ¬ (63743 : Int32) < q1 := by rw [Int32.lt_iff_toInt_lt, show (63743 : Int32).toInt = 63743 from by decide]; omega
  have f9 : ¬ (64975 : Int32) < q1 := by rw [Int32.lt_iff_toInt_lt, show (64975 : Int32).toInt = 64975 from by decide]; omega
  have f10 : ¬ (65007 : Int32) < q1 := by rw [Int32.lt_iff_toInt_lt, show (65007 : Int32).toInt = 65007 from by decide]; omega
  have f11 : ¬ (65533 : Int32) < q1 := by rw [Int32.lt_iff_toInt_lt, show (65533 : Int32).toInt = 65533 from by decide]; omega
  have f12 : ¬ (65535 : Int32) < q1 := by rw [Int32.lt_iff_toInt_lt, show (65535 : Int32).toInt = 65535 from by decide]; omega
  have f13 : (767 : Int32) < q1 := by rw [Int32.lt_iff_toInt_lt, show (767 : Int32).toInt = 767 from by decide]; omega
  have f14 : (8191 : Int32) < q1 := by rw [Int32.lt_iff_toInt_lt, show (8191 : Int32).toInt = 8191 from by decide]; omega
  have f15 : (8203 : Int32) < q1 := by rw [Int32.lt_iff_toInt_lt, show (8203 : Int32).toInt = 8203 from by decide]; omega
  have f16 : (8205 : Int32) < q1 := by rw [Int32.lt_iff_toInt_lt, show (8205 : Int32).toInt = 8205 from by decide]; omega
  have f17 : (8303 : Int32) < q1 := by rw [Int32.lt_iff_toInt_lt, show (8303 : Int32).toInt = 8303 from by decide]; omega
  have f18 : (8591 : Int32) < q1 := by rw [Int32.lt_iff_toInt_lt, show (8591 : Int32).toInt = 8591 from by decide]; omega
  have f19 : (879 : Int32) < q1 := by rw [Int32.lt_iff_toInt_lt, show (879 : Int32).toInt = 879 from by decide]; omega
  have f20 : (893 : Int32) < q1 := by rw [Int32.lt_iff_toInt_lt, show (893 : Int32).toInt = 893 from by decide]; omega
  have f21 : (90 : Int32) < q1 := by rw [Int32.lt_iff_toInt_lt, show (90 : Int32).toInt = 90 from by decide]; omega
  have f22 : ¬ (983039 : Int32) < q1 := by rw [Int32.lt_iff_toInt_lt, show (983039 : Int32).toInt = 983039 from by decide]; omega
  have f23 : ¬ q1 < (11264 : Int32) := by rw [Int32.lt_iff_toInt_lt, show (11264 : Int32).toInt = 11264 from by decide]; omega
  have f24 : q1 < (12272 : Int32) := by rw [Int32.lt_iff_toInt_lt, show (12272 : Int32).toInt = 12272 from by decide]; omega
  have f25 : q1 < (12289 : Int32) := by rw [Int32.lt_iff_toInt_lt, show (12289 : Int32).toInt = 12289 from by decide]; omega
  have f26 : ¬ q1 < (128 : Int32) := by rw [Int32.lt_iff_toInt_lt, show (128 : Int32).toInt = 128 from by decide]; omega
  have f27 : ¬ q1 < (192 : Int32) := by rw [Int32.lt_iff_toInt_lt, show (192 : Int32).toInt = 192 from by decide]; omega
  have f28 : ¬ q1 < (216 : Int32) := by rw [Int32.lt_iff_toInt_lt, show (216 : Int32).toInt = 216 from by decide]; omega
  have f29 : ¬ q1 < (248 : Int32) := by rw [Int32.lt_iff_toInt_lt, show (248 : Int32).toInt = 248 from by decide]; omega
  have f30 : q1 < (55296 : Int32) := by rw [Int32.lt_iff_toInt_lt, show (55296 : Int32).toInt = 55296 from by decide]; omega
  have f31 : q1 < (63744 : Int32) := by rw [Int32.lt_iff_toInt_lt, show (63744 : Int32).toInt = 63744 from by decide]; omega
  have f32 : q1 < (64976 : Int32) := by rw [Int32.lt_iff_toInt_lt, show (64976 : Int32).toInt = 64976 from by decide]; omega
  have f33 : ¬ q1 < (65 : Int32) := by rw [Int32.lt_iff_toInt_lt, show (65 : Int32).toInt = 65 from by decide]; omega
  have f34 : q1 < (65008 : Int32) := by rw [Int32.lt_iff_toInt_lt, show (65008 : Int32).toInt = 65008 from by decide]; omega
  have f35 : q1 < (65534 : Int32) := by rw [Int32.lt_iff_toInt_lt, show (65534 : Int32).toInt = 65534 from by decide]; omega
  have f36 : q1 < (65536 : Int32) := by rw [Int32.lt_iff_toInt_lt, show (65536 : Int32).toInt = 65536 from by decide]; omega
  have f37 : ¬ q1 < (768 : Int32) := by rw [Int32.lt_iff_toInt_lt, show (768 : Int32).toInt = 768 from by decide]; omega
  have f38 : ¬ q1 < (8192 : Int32) := by rw [Int32.lt_iff_toInt_lt, show (8192 : Int32).toInt = 8192 from by decide]; omega
  have f39 : ¬ q1 < (8204 : Int32) := by rw [Int32.lt_iff_toInt_lt, show (8204 : Int32).toInt = 8204 from by decide]; omega
  have f40 : ¬ q1 < (8206 : Int32) := by rw [Int32.lt_iff_toInt_lt, show (8206 : Int32).toInt = 8206 from by decide]; omega
  have f41 : ¬ q1 < (8304 : Int32) := by rw [Int32.lt_iff_toInt_lt, show (8304 : Int32).toInt = 8304 from by decide]; omega
  have f42 : ¬ q1 < (8592 : Int32) := by rw [Int32.lt_iff_toInt_lt, show (8592 : Int32).toInt = 8592 from by decide]; omega
  have f43 : ¬ q1 < (880 : Int32) := by rw [Int32.lt_iff_toInt_lt, show (880 : Int32).toInt = 880 from by decide]; omega
  have f44 : ¬ q1 < (895 : Int32) := by rw [Int32.lt_iff_toInt_lt, show (895 : Int32).toInt = 895 from by decide]; omega
  have f45 : ¬ q1 < (97 : Int32) := by rw [Int32.lt_iff_toInt_lt, show (97 : Int32).toInt = 97 from by decide]; omega
  have f46 : q1 < (983040 : Int32) := by rw [Int32.lt_iff_toInt_lt, show (983040 : Int32).toInt = 983040 from by decide]; omega
  have f47 : ¬ q1 = (215 : Int32) := by intro q; rw [q, show (215 : Int32).toInt = 215 from by decide] at h1 h2; omega
  have f48 : ¬ q1 = (247 : Int32) := by intro q; rw [q, show (247 : Int32).toInt = 247 from by decide] at h1 h2; omega
  have f49 : ¬ q1 = (58 : Int32) := by intro q; rw [q, show (58 : Int32).toInt = 58 from by decide] at h1 h2; omega
  have f50 : ¬ q1 = (894 : Int32) := by intro q; rw [q, show (894 : Int32).toInt = 894 from by decide] at h1 h2; omega
  have f51 : ¬ q1 = (95 : Int32) := by intro q; rw [q, show (95 : Int32).toInt = 95 from by decide] at h1 h2; omega
  simp [nb3_0, nb3_21, nb3_23, nb3_37, nb3_51, nb3_65, nb3_79, nb3_93, nb3_107, nb3_121, nb3_135, nb3_148, nb3_160, nb3_172, nb3_184, nb3_188, nb4_0, nb4_19, nb4_31, nb4_43, nb4_47, nb4_49, nb4_84, nb4_105, nb4_119, nb4_133, nb4_147, nb4_159, nb4_171, nb4_183, nb4_189, nb4_193, nb4_203, f0, f1, f2, f3, f4, f5, f6, f7, f8, f9, f10, f11, f12, f13, f14, f15, f16, f17, f18, f19, f20, f21, f22, f23, f24, f25, f26, f27, f28, f29, f30, f31, f32, f33, f34, f35, f36, f37, f38, f39, f40, f41, f42, f43, f44, f45, f46, f47, f48, f49, f50, f51]
theorem own_leaf16 (q1 : Int32) (h1 : 12272 ≤ q1.toInt) (h2 : q1.toInt < 12289) : nb3_0 q1 = nb4_0 q1 := by
  have f0 : (11263 : Int32) < q1 := by rw [Int32.lt_iff_toInt_lt, show (11263 : Int32).toInt = 11263 from by decide]; omega
  have f1 : (122 : Int32) < q1 := by rw [Int32.lt_iff_toInt_lt, show (122 : Int32).toInt = 122 from by decide]; omega
  have f2 : (12271 : Int32) < q1 := by rw [Int32.lt_iff_toInt_lt, show (12271 : Int32).toInt = 12271 from by decide]; omega
  have f3 : ¬ (12288 : Int32) < q1 := by rw [Int32.lt_iff_toInt_lt, show (12288 : Int32).toInt = 12288 from by decide]; omega
  have f4 : (191 : Int32) < q1 := by rw [Int32.lt_iff_toInt_lt, show (191 : Int32).toInt = 191 from by decide]; omega
  have f5 : (214 : Int32) < q1 := by rw [Int32.lt_iff_toInt_lt, show (214 : Int32).toInt = 214 from by decide]; omega
  have f6 : (246 : Int32) < q1 := by rw [Int32.lt_iff_toInt_lt, show (246 : Int32).toInt = 246 from by decide]; omega
  have f7 : ¬ (55295 : Int32) < q1 := by rw [Int32.lt_iff_toInt_lt, show (55295 : Int32).toInt = 55295 from by decide]; omega
  have f8 : ¬ (63743 : Int32) < q1 := by rw [Int32.lt_iff_toInt_lt, show (63743 : Int32).toInt = 63743 from by decide]; omega
  have f9 : ¬ (64975 : Int32) < q1 := by rw [Int32.lt_iff_toInt_lt, show (64975 : Int32).toInt = 64975 from by decide]; omega
  have f10 : ¬ (65007 : Int32) < q1 := by rw [Int32.lt_iff_toInt_lt, show (65007 : Int32).toInt = 65007 from by decide]; omega
  have f11 : ¬ (65533 : Int32) < q1 := by rw [Int32.lt_iff_toInt_lt, show (65533 : Int32).toInt = 65533 from by decide]; omega
  have f12 : ¬ (65535 : Int32) < q1 := by rw [Int32.lt_iff_toInt_lt, show (65535 : Int32).toInt = 65535 from by decide]; omega
  have f13 : (767 : Int32) < q1 := by rw [Int32.lt_iff_toInt_lt, show (767 : Int32).toInt = 767 from by decide]; omega
  have f14 : (8191 : Int32) < q1 := by rw [Int32.lt_iff_toInt_lt, show (8191 : Int32).toInt = 8191 from by decide]; omega
  have f15 : (8203 : Int32) < q1 := by rw [Int32.lt_iff_toInt_lt, show (8203 : Int32).toInt = 8203 from by decide]; omega
  have f16 : (8205 : Int32) < q1 := by rw [Int32.lt_iff_toInt_lt, show (8205 : Int32).toInt = 8205 from by decide]; omega
  have f17 : (8303 : Int32) < q1 := by rw [Int32.lt_iff_toInt_lt, show (8303 : Int32).toInt = 8303 from by decide]; omega
  have f18 : (8591 : Int32) < q1 := by rw [Int32.lt_iff_toInt_lt, show (8591 : Int32).toInt = 8591 from by decide]; omega
  have f19 : (879 : Int32) < q1 := by rw [Int32.lt_iff_toInt_lt, show (879 : Int32).toInt = 879 from by decide]; omega
  have f20 : (893 : Int32) < q1 := by rw [Int32.lt_iff_toInt_lt, show (893 : Int32).toInt = 893 from by decide]; omega
  have f21 : (90 : Int32) < q1 := by rw [Int32.lt_iff_toInt_lt, show (90 : Int32).toInt = 90 from by decide]; omega
  have f22 : ¬ (983039 : Int32) < q1 := by rw [Int32.lt_iff_toInt_lt, show (983039 : Int32).toInt = 983039 from by decide]; omega
  have f23 : ¬ q1 < (11264 : Int32) := by rw [Int32.lt_iff_toInt_lt, show (11264 : Int32).toInt = 11264 from by decide]; omega
  have f24 : ¬ q1 < (12272 : Int32) := by rw [Int32.lt_iff_toInt_lt, show (12272 : Int32).toInt = 12272 from by decide]; omega
  have f25 : q1 < (12289 : Int32) := by rw [Int32.lt_iff_toInt_lt, show (12289 : Int32).toInt = 12289 from by decide]; omega
  have f26 : ¬ q1 < (128 : Int32) := by rw [Int32.lt_iff_toInt_lt, show (128 : Int32).toInt = 128 from by decide]; omega
  have f27 : ¬ q1 < (192 : Int32) := by rw [Int32.lt_iff_toInt_lt, show (192 : Int32).toInt = 192 from by decide]; omega
  have f28 : ¬ q1 < (216 : Int32) := by rw [Int32.lt_iff_toInt_lt, show (216 : Int32).toInt = 216 from by decide]; omega
  have f29 : ¬ q1 < (248 : Int32) := by rw [Int32.lt_iff_toInt_lt, show (248 : Int32).toInt = 248 from by decide]; omega
  have f30 : q1 < (55296 : Int32) := by rw [Int32.lt_iff_toInt_lt, show (55296 : Int32).toInt = 55296 from by decide]; omega
  have f31 : q1 < (63744 : Int32) := by rw [Int32.lt_iff_toInt_lt, show (63744 : Int32).toInt = 63744 from by decide]; omega
  have f32 : q1 < (64976 : Int32) := by rw [Int32.lt_iff_toInt_lt, show (64976 : Int32).toInt = 64976 from by decide]; omega
  have f33 : ¬ q1 < (65 : Int32) := by rw [Int32.lt_iff_toInt_lt, show (65 : Int32).toInt = 65 from by decide]; omega
  have f34 : q1 < (65008 : Int32) := by rw [Int32.lt_iff_toInt_lt, show (65008 : Int32).toInt = 65008 from by decide]; omega
  have f35 : q1 < (65534 : Int32) := by rw [Int32.lt_iff_toInt_lt, show (65534 : Int32).toInt = 65534 from by decide]; omega
  have f36 : q1 < (65536 : Int32) := by rw [Int32.lt_iff_toInt_lt, show (65536 : Int32).toInt = 65536 from by decide]; omega
  have f37 : ¬ q1 < (768 : Int32) := by rw [Int32.lt_iff_toInt_lt, show (768 : Int32).toInt = 768 from by decide]; omega
  have f38 : ¬ q1 < (8192 : Int32) := by rw [Int32.lt_iff_toInt_lt, show (8192 : Int32).toInt = 8192 from by decide]; omega
  have f39 : ¬ q1 < (8204 : Int32) := by rw [Int32.lt_iff_toInt_lt, show (8204 : Int32).toInt = 8204 from by decide]; omega
  have f40 : ¬ q1 < (8206 : Int32) := by rw [Int32.lt_iff_toInt_lt, show (8206 : Int32).toInt = 8206 from by decide]; omega
  have f41 : ¬ q1 < (8304 : Int32) := by rw [Int32.lt_iff_toInt_lt, show (8304 : Int32).toInt = 8304 from by decide]; omega
  have f42 : ¬ q1 < (8592 : Int32) := by rw [Int32.lt_iff_toInt_lt, show (8592 : Int32).toInt = 8592 from by decide]; omega
  have f43 : ¬ q1 < (880 : Int32) := by rw [Int32.lt_iff_toInt_lt, show (880 : Int32).toInt = 880 from by decide]; omega
  have f44 : ¬ q1 < (895 : Int32) := by rw [Int32.lt_iff_toInt_lt, show (895 : Int32).toInt = 895 from by decide]; omega
  have f45 : ¬ q1 < (97 : Int32) := by rw [Int32.lt_iff_toInt_lt, show (97 : Int32).toInt = 97 from by decide]; omega
  have f46 : q1 < (983040 : Int32) := by rw [Int32.lt_iff_toInt_lt, show (983040 : Int32).toInt = 983040 from by decide]; omega
  have f47 : ¬ q1 = (215 : Int32) := by intro q; rw [q, show (215 : Int32).toInt = 215 from by decide] at h1 h2; omega
  have f48 : ¬ q1 = (247 : Int32) := by intro q; rw [q, show (247 : Int32).toInt = 247 from by decide] at h1 h2; omega
  have f49 : ¬ q1 = (58 : Int32) := by intro q; rw [q, show (58 : Int32).toInt = 58 from by decide] at h1 h2; omega
  have f50 : ¬ q1 = (894 : Int32) := by intro q; rw [q, show (894 : Int32).toInt = 894 from by decide] at h1 h2; omega
  have f51 : ¬ q1 = (95 : Int32) := by intro q; rw [q, show (95 : Int32).toInt = 95 from by decide] at h1 h2; omega
  simp [nb3_0, nb3_21, nb3_23, nb3_37, nb3_51, nb3_65, nb3_79, nb3_93, nb3_107, nb3_121, nb3_135, nb3_148, nb3_160, nb3_172, nb3_184, nb3_188, nb4_0, nb4_19, nb4_31, nb4_43, nb4_47, nb4_49, nb4_84, nb4_105, nb4_119, nb4_133, nb4_147, nb4_159, nb4_171, nb4_183, nb4_189, nb4_193, nb4_203, f0, f1, f2, f3, f4, f5, f6, f7, f8, f9, f10, f11, f12, f13, f14, f15, f16, f17, f18, f19, f20, f21, f22, f23, f24, f25, f26, f27, f28, f29, f30, f31, f32, f33, f34, f35, f36, f37, f38, f39, f40, f41, f42, f43, f44, f45, f46, f47, f48, f49, f50, f51]
theorem own_leaf17 (q1 : Int32) (h1 : 12289 ≤ q1.toInt) (h2 : q1.toInt < 55296) : nb3_0 q1 = nb4_0 q1 := by
  have f0 : (11263 : Int32) < q1 := by rw [Int32.lt_iff_toInt_lt, show (11263 : Int32).toInt = 11263 from by decide]; omega
  have f1 : (122 : Int32) < q1 := by rw [Int32.lt_iff_toInt_lt, show (122 : Int32).toInt = 122 from by decide]; omega
  have f2 : (12271 : Int32) < q1 := by rw [Int32.lt_iff_toInt_lt, show (12271 : Int32).toInt = 12271 from by decide]; omega
  have f3 : (12288 : Int32) < q1 := by rw [Int32.lt_iff_toInt_lt, show (12288 : Int32).toInt = 12288 from by decide]; omega
  have f4 : (191 : Int32) < q1 := by rw [Int32.lt_iff_toInt_lt, show (191 : Int32).toInt = 191 from by decide]; omega
  have f5 : (214 : Int32) < q1 := by rw [Int32.lt_iff_toInt_lt, show (214 : Int32).toInt = 214 from by decide]; omega
  have f6 : (246 : Int32) < q1 := by rw [Int32.lt_iff_toInt_lt, show (246 : Int32).toInt = 246 from by decide]; omega
  have f7 : ¬ (55295 : Int32) < q1 := by rw [Int32.lt_iff_toInt_lt, show (55295 : Int32).toInt = 55295 from by decide]; omega
  have f8 : ¬ (63743 : Int32) < q1 := by rw [Int32.lt_iff_toInt_lt, show (63743 : Int32).toInt = 63743 from by decide]; omega
  have f9 : ¬ (64975 : Int32) < q1 := by rw [Int32.lt_iff_toInt_lt, show (64975 : Int32).toInt = 64975 from by decide]; omega
  have f10 : ¬ (65007 : Int32) < q1 := by rw [Int32.lt_iff_toInt_lt, show (65007 : Int32).toInt = 65007 from by decide]; omega
  have f11 : ¬ (65533 : Int32) < q1 := by rw [Int32.lt_iff_toInt_lt, show (65533 : Int32).toInt = 65533 from by decide]; omega
  have f12 : ¬ (65535 : Int32) < q1 := by rw [Int32.lt_iff_toInt_lt, show (65535 : Int32).toInt = 65535 from by decide]; omega
  have f13 : (767 : Int32) < q1 := by rw [Int32.lt_iff_toInt_lt, show (767 : Int32).toInt = 767 from by decide]; omega
  have f14 : (8191 : Int32) < q1 := by rw [Int32.lt_iff_toInt_lt, show (8191 : Int32).toInt = 8191 from by decide]; omega
  have f15 : (8203 : Int32) < q1 := by rw [Int32.lt_iff_toInt_lt, show (8203 : Int32).toInt = 8203 from by decide]; omega
  have f16 : (8205 : Int32) < q1 := by rw [Int32.lt_iff_toInt_lt, show (8205 : Int32).toInt = 8205 from by decide]; omega
  have f17 : (8303 : Int32) < q1 := by rw [Int32.lt_iff_toInt_lt, show (8303 : Int32).toInt = 8303 from by decide]; omega
  have f18 : (8591 : Int32) < q1 := by rw [Int32.lt_iff_toInt_lt, show (8591 : Int32).toInt = 8591 from by decide]; omega
  have f19 : (879 : Int32) < q1 := by rw [Int32.lt_iff_toInt_lt, show (879 : Int32).toInt = 879 from by decide]; omega
  have f20 : (893 : Int32) < q1 := by rw [Int32.lt_iff_toInt_lt, show (893 : Int32).toInt = 893 from by decide]; omega
  have f21 : (90 : Int32) < q1 := by rw [Int32.lt_iff_toInt_lt, show (90 : Int32).toInt = 90 from by decide]; omega
  have f22 : ¬ (983039 : Int32) < q1 := by rw [Int32.lt_iff_toInt_lt, show (983039 : Int32).toInt = 983039 from by decide]; omega
  have f23 : ¬ q1 < (11264 : Int32) := by rw [Int32.lt_iff_toInt_lt, show (11264 : Int32).toInt = 11264 from by decide]; omega
  have f24 : ¬ q1 < (12272 : Int32) := by rw [Int32.lt_iff_toInt_lt, show (12272 : Int32).toInt = 12272 from by decide]; omega
  have f25 : ¬ q1 < (12289 : Int32) := by rw [Int32.lt_iff_toInt_lt, show (12289 : Int32).toInt = 12289 from by decide]; omega
  have f26 : ¬ q1 < (128 : Int32) := by rw [Int32.lt_iff_toInt_lt, show (128 : Int32).toInt = 128 from by decide]; omega
  have f27 : ¬ q1 < (192 : Int32) := by rw [Int32.lt_iff_toInt_lt, show (192 : Int32).toInt = 192 from by decide]; omega
  have f28 : ¬ q1 < (216 : Int32) := by rw [Int32.lt_iff_toInt_lt, show (216 : Int32).toInt = 216 from by decide]; omega
  have f29 : ¬ q1 < (248 : Int32) := by rw [Int32.lt_iff_toInt_lt, show (248 : Int32).toInt = 248 from by decide]; omega
  have f30 : q1 < (55296 : Int32) := by rw [Int32.lt_iff_toInt_lt, show (55296 : Int32).toInt = 55296 from by decide]; omega
  have f31 : q1 < (63744 : Int32) := by rw [Int32.lt_iff_toInt_lt, show (63744 : Int32).toInt = 63744 from by decide]; omega
  have f32 : q1 < (64976 : Int32) := by rw [Int32.lt_iff_toInt_lt, show (64976 : Int32).toInt = 64976 from by decide]; omega
  have f33 : ¬ q1 < (65 : Int32) := by rw [Int32.lt_iff_toInt_lt, show (65 : Int32).toInt = 65 from by decide]; omega
  have f34 : q1 < (65008 : Int32) := by rw [Int32.lt_iff_toInt_lt, show (65008 : Int32).toInt = 65008 from by decide]; omega
  have f35 : q1 < (65534 : Int32) := by rw [Int32.lt_iff_toInt_lt, show (65534 : Int32).toInt = 65534 from by decide]; omega
  have f36 : q1 < (65536 : Int32) := by rw [Int32.lt_iff_toInt_lt, show (65536 : Int32).toInt = 65536 from by decide]; omega
  have f37 : ¬ q1 < (768 : Int32) := by rw [Int32.lt_iff_toInt_lt, show (768 : Int32).toInt = 768 from by decide]; omega
  have f38 : ¬ q1 < (8192 : Int32) := by rw [Int32.lt_iff_toInt_lt, show (8192 : Int32).toInt = 8192 from by decide]; omega
  have f39 : ¬ q1 < (8204 : Int32) := by rw [Int32.lt_iff_toInt_lt, show (8204 : Int32).toInt = 8204 from by decide]; omega
  have f40 : ¬ q1 < (8206 : Int32) := by rw [Int32.lt_iff_toInt_lt, show (8206 : Int32).toInt = 8206 from by decide]; omega
  have f41 : ¬ q1 < (8304 : Int32) := by rw [Int32.lt_iff_toInt_lt, show (8304 : Int32).toInt = 8304 from by decide]; omega
  have f42 : ¬ q1 < (8592 : Int32) := by rw [Int32.lt_iff_toInt_lt, show (8592 : Int32).toInt = 8592 from by decide]; omega
  have f43 : ¬ q1 < (880 : Int32) := by rw [Int32.lt_iff_toInt_lt, show (880 : Int32).toInt = 880 from by decide]; omega
  have f44 : ¬ q1 < (895 : Int32) := by rw [Int32.lt_iff_toInt_lt, show (895 : Int32).toInt = 895 from by decide]; omega
  have f45 : ¬ q1 < (97 : Int32) := by rw [Int32.lt_iff_toInt_lt, show (97 : Int32).toInt = 97 from by decide]; omega
  have f46 : q1 < (983040 : Int32) := by rw [Int32.lt_iff_toInt_lt, show (983040 : Int32).toInt = 983040 from by decide]; omega
  have f47 : ¬ q1 = (215 : Int32) := by intro q; rw [q, show (215 : Int32).toInt = 215 from by decide] at h1 h2; omega
  have f48 : ¬ q1 = (247 : Int32) := by intro q; rw [q, show (247 : Int32).toInt = 247 from by decide] at h1 h2; omega
  have f49 : ¬ q1 = (58 : Int32) := by intro q; rw [q, show (58 : Int32).toInt = 58 from by decide] at h1 h2; omega
  have f50 : ¬ q1 = (894 : Int32) := by intro q; rw [q, show (894 : Int32).toInt = 894 from by decide] at h1 h2; omega
  have f51 : ¬ q1 = (95 : Int32) := by intro q; rw [q, show (95 : Int32).toInt = 95 from by decide] at h1 h2; omega
  simp [nb3_0, nb3_21, nb3_23, nb3_37, nb3_51, nb3_65, nb3_79, nb3_93, nb3_107, nb3_121, nb3_135, nb3_148, nb3_160, nb3_172, nb3_184, nb3_188, nb4_0, nb4_19, nb4_31, nb4_43, nb4_47, nb4_49, nb4_84, nb4_105, nb4_119, nb4_133, nb4_147, nb4_159, nb4_171, nb4_183, nb4_189, nb4_193, nb4_203, f0, f1, f2, f3, f4, f5, f6, f7, f8, f9, f10, f11, f12, f13, f14, f15, f16, f17, f18, f19, f20, f21, f22, f23, f24, f25, f26, f27, f28, f29, f30, f31, f32, f33, f34, f35, f36, f37, f38, f39, f40, f41, f42, f43, f44, f45, f46, f47, f48, f49, f50, f51]
theorem own_leaf18 (q1 : Int32) (h1 : 55296 ≤ q1.toInt) (h2 : q1.toInt < 63744) : nb3_0 q1 = nb4_0 q1 := by
  have f0 : (11263 : Int32) < q1 := by rw [Int32.lt_iff_toInt_lt, show (11263 : Int32).toInt = 11263 from by decide]; omega
  have f1 : (122 : Int32) < q1 := by rw [Int32.lt_iff_toInt_lt, show (122 : Int32).toInt = 122 from by decide]; omega
  have f2 : (12271 : Int32) < q1 := by rw [Int32.lt_iff_toInt_lt, show (12271 : Int32).toInt = 12271 from by decide]; omega
  have f3 : (12288 : Int32) < q1 := by rw [Int32.lt_iff_toInt_lt, show (12288 : Int32).toInt = 12288 from by decide]; omega
  have f4 : (191 : Int32) < q1 := by rw [Int32.lt_iff_toInt_lt, show (191 : Int32).toInt = 191 from by decide]; omega
  have f5 : (214 : Int32) < q1 := by rw [Int32.lt_iff_toInt_lt, show (214 : Int32).toInt = 214 from by decide]; omega
  have f6 : (246 : Int32) < q1 := by rw [Int32.lt_iff_toInt_lt, show (246 : Int32).toInt = 246 from by decide]; omega
  have f7 : (55295 : Int32) < q1 := by rw [Int32.lt_iff_toInt_lt, show (55295 : Int32).toInt = 55295 from by decide]; omega
  have f8 : ¬ (63743 : Int32) < q1 := by rw [Int32.lt_iff_toInt_lt, show (63743 : Int32).toInt = 63743 from by decide]; omega
  have f9 : ¬ (64975 : Int32) < q1 := by rw [Int32.lt_iff_toInt_lt, show (64975 : Int32).toInt = 64975 from by decide]; omega
  have f10 : ¬ (65007 : Int32) < q1 := by rw [Int32.lt_iff_toInt_lt, show (65007 : Int32).toInt = 65007 from by decide]; omega
  have f11 : ¬ (65533 : Int32) < q1 := by rw [Int32.lt_iff_toInt_lt, show (65533 : Int32).toInt = 65533 from by decide]; omega
  have f12 : ¬ (65535 : Int32) < q1 := by rw [Int32.lt_iff_toInt_lt, show (65535 : Int32).toInt = 65535 from by decide]; omega
  have f13 : (767 : Int32) < q1 := by rw [Int32.lt_iff_toInt_lt, show (767 : Int32).toInt = 767 from by decide]; omega
  have f14 : (8191 : Int32) < q1 := by rw [Int32.lt_iff_toInt_lt, show (8191 : Int32).toInt = 8191 from by decide]; omega
  have f15 : (8203 : Int32) < q1 := by rw [Int32.lt_iff_toInt_lt, show (8203 : Int32).toInt = 8203 from by decide]; omega
  have f16 : (8205 : Int32) < q1 := by rw [Int32.lt_iff_toInt_lt, show (8205 : Int32).toInt = 8205 from by decide]; omega
  have f17 : (8303 : Int32) < q1 := by rw [Int32.lt_iff_toInt_lt, show (8303 : Int32).toInt = 8303 from by decide]; omega
  have f18 : (8591 : Int32) < q1 := by rw [Int32.lt_iff_toInt_lt, show (8591 : Int32).toInt = 8591 from by decide]; omega
  have f19 : (879 : Int32) < q1 := by rw [Int32.lt_iff_toInt_lt, show (879 : Int32).toInt = 879 from by decide]; omega
  have f20 : (893 : Int32) < q1 := by rw [Int32.lt_iff_toInt_lt, show (893 : Int32).toInt = 893 from by decide]; omega
  have f21 : (90 : Int32) < q1 := by rw [Int32.lt_iff_toInt_lt, show (90 : Int32).toInt = 90 from by decide]; omega
  have f22 : ¬ (983039 : Int32) < q1 := by rw [Int32.lt_iff_toInt_lt, show (983039 : Int32).toInt = 983039 from by decide]; omega
  have f23 : ¬ q1 < (11264 : Int32) := by rw [Int32.lt_iff_toInt_lt, show (11264 : Int32).toInt = 11264 from by decide]; omega
  have f24 : ¬ q1 < (12272 : Int32) := by rw [Int32.lt_iff_toInt_lt, show (12272 : Int32).toInt = 12272 from by decide]; omega
  have f25 : ¬ q1 < (12289 : Int32) := by rw [Int32.lt_iff_toInt_lt, show (12289 : Int32).toInt = 12289 from by decide]; omega
  have f26 : ¬ q1 < (128 : Int32) := by rw [Int32.lt_iff_toInt_lt, show (128 : Int32).toInt = 128 from by decide]; omega
  have f27 : ¬ q1 < (192 : Int32) := by rw [Int32.lt_iff_toInt_lt, show (192 : Int32).toInt = 192 from by decide]; omega
  have f28 : ¬ q1 < (216 : Int32) := by rw [Int32.lt_iff_toInt_lt, show (216 : Int32).toInt = 216 from by decide]; omega
  have f29 : ¬ q1 < (248 : Int32) := by rw [Int32.lt_iff_toInt_lt, show (248 : Int32).toInt = 248 from by decide]; omega
  have f30 : ¬ q1 < (55296 : Int32) := by rw [Int32.lt_iff_toInt_lt, show (55296 : Int32).toInt = 55296 from by decide]; omega
  have f31 : q1 < (63744 : Int32) := by rw [Int32.lt_iff_toInt_lt, show (63744 : Int32).toInt = 63744 from by decide]; omega
  have f32 : q1 < (64976 : Int32) := by rw [Int32.lt_iff_toInt_lt, show (64976 : Int32).toInt = 64976 from by decide]; omega
  have f33 : ¬ q1 < (65 : Int32) := by rw [Int32.lt_iff_toInt_lt, show (65 : Int32).toInt = 65 from by decide]; omega
  have f34 : q1 < (65008 : Int32) := by rw [Int32.lt_iff_toInt_lt, show (65008 : Int32).toInt = 65008 from by decide]; omega
  have f35 : q1 < (65534 : Int32) := by rw [Int32.lt_iff_toInt_lt, show (65534 : Int32).toInt = 65534 from by decide]; omega
  have f36 : q1 < (65536 : Int32) := by rw [Int32.lt_iff_toInt_lt, show (65536 : Int32).toInt = 65536 from by decide]; omega
  have f37 : ¬ q1 < (768 : Int32) := by rw [Int32.lt_iff_toInt_lt, show (768 : Int32).toInt = 768 from by decide]; omega
  have f38 : ¬ q1 < (8192 : Int32) := by rw [Int32.lt_iff_toInt_lt, show (8192 : Int32).toInt = 8192 from by decide]; omega
  have f39 : ¬ q1 < (8204 : Int32) := by rw [Int32.lt_iff_toInt_lt, show (8204 : Int32).toInt = 8204 from by decide]; omega
  have f40 : ¬ q1 < (8206 : Int32) := by rw [Int32.lt_iff_toInt_lt, show (8206 : Int32).toInt = 8206 from by decide]; omega
  have f41 : ¬ q1 < (8304 : Int32) := by rw [Int32.lt_iff_toInt_lt, show (8304 : Int32).toInt = 8304 from by decide]; omega
  have f42 : ¬ q1 < (8592 : Int32) := by rw [Int32.lt_iff_toInt_lt, show (8592 : Int32).toInt = 8592 from by decide]; omega
  have f43 : ¬ q1 < (880 : Int32) := by rw [Int32.lt_iff_toInt_lt, show (880 : Int32).toInt = 880 from by decide]; omega
  have f44 : ¬ q1 < (895 : Int32) := by rw [Int32.lt_iff_toInt_lt, show (895 : Int32).toInt = 895 from by decide]; omega
  have f45 : ¬ q1 < (97 : Int32) := by rw [Int32.lt_iff_toInt_lt, show (97 : Int32).toInt = 97 from by decide]; omega
  have f46 : q1 < (983040 : Int32) := by rw [Int32.lt_iff_toInt_lt, show (983040 : Int32).toInt = 983040 from by decide]; omega
  have f47 : ¬ q1 = (215 : Int32) := by intro q; rw [q, show (215 : Int32).toInt = 215 from by decide] at h1 h2; omega
  have f48 : ¬ q1 = (247 : Int32) := by intro q; rw [q, show (247 : Int32).toInt = 247 from by decide] at h1 h2; omega
  have f49 : ¬ q1 = (58 : Int32) := by intro q; rw [q, show (58 : Int32).toInt = 58 from by decide] at h1 h2; omega
  have f50 : ¬ q1 = (894 : Int32) := by intro q; rw [q, show (894 : Int32).toInt = 894 from by decide] at h1 h2; omega
  have f51 : ¬ q1 = (95 : Int32) := by intro q; rw [q, show (95 : Int32).toInt = 95 from by decide] at h1 h2; omega
  simp [nb3_0, nb3_21, nb3_23, nb3_37, nb3_51, nb3_65, nb3_79, nb3_93, nb3_107, nb3_121, nb3_135, nb3_148, nb3_160, nb3_172, nb3_184, nb3_188, nb4_0, nb4_19, nb4_31, nb4_43, nb4_47, nb4_49, nb4_84, nb4_105, nb4_119, nb4_133, nb4_147, nb4_159, nb4_171, nb4_183, nb4_189, nb4_193, nb4_203, f0, f1, f2, f3, f4, f5, f6, f7, f8, f9, f10, f11, f12, f13, f14, f15, f16, f17, f18, f19, f20, f21, f22, f23, f24, f25, f26, f27, f28, f29, f30, f31, f32, f33, f34, f35, f36, f37, f38, f39, f40, f41, f42, f43, f44, f45, f46, f47, f48, f49, f50, f51]
theorem own_leaf19 (q1 : Int32) (h1 : 63744 ≤ q1.toInt) (h2 : q1.toInt < 64976) : nb3_0 q1 = nb4_0 q1 := by
  have f0 : (11263 : Int32) < q1 := by rw [Int32.lt_iff_toInt_lt, show (11263 : Int32).toInt = 11263 from by decide]; omega
  have f1 : (122 : Int32) < q1 := by rw [Int32.lt_iff_toInt_lt, show (122 : Int32).toInt = 122 from by decide]; omega
  have f2 : (12271 : Int32) < q1 := by rw [Int32.lt_iff_toInt_lt, show (12271 : Int32).toInt = 12271 from by decide]; omega
  have f3 : (12288 : Int32) < q1 := by rw [Int32.lt_iff_toInt_lt, show (12288 : Int32).toInt = 12288 from by decide]; omega
  have f4 : (191 : Int32) < q1 := by rw [Int32.lt_iff_toInt_lt, show (191 : Int32).toInt = 191 from by decide]; omega
  have f5 : (214 : Int32) < q1 := by rw [Int32.lt_iff_toInt_lt, show (214 : Int32).toInt = 214 from by decide]; omega
  have f6 : (246 : Int32) < q1 := by rw [Int32.lt_iff_toInt_lt, show (246 : Int32).toInt = 246 from by decide]; omega
  have f7 : (55295 : Int32) < q1 := by rw [Int32.lt_iff_toInt_lt, show (55295 : Int32).toInt = 55295 from by decide]; omega
  have f8 : (63743 : Int32) < q1 := by rw [Int32.lt_iff_toInt_lt, show (63743 : Int32).toInt = 63743 from by decide]; omega
  have f9 : ¬ (64975 : Int32) < q1 := by rw [Int32.lt_iff_toInt_lt, show (64975 : Int32).toInt = 64975 from by decide]; omega
  have f10 : ¬ (65007 : Int32) < q1 := by rw [Int32.lt_iff_toInt_lt, show (65007 : Int32).toInt = 65007 from by decide]; omega
  have f11 : ¬ (65533 : Int32) < q1 := by rw [Int32.lt_iff_toInt_lt, show (65533 : Int32).toInt = 65533 from by decide]; omega
  have f12 : ¬ (65535 : Int32) < q1 := by rw [Int32.lt_iff_toInt_lt, show (65535 : Int32).toInt = 65535 from by decide]; omega
  have f13 : (767 : Int32) < q1 := by rw [Int32.lt_iff_toInt_lt, show (767 : Int32).toInt = 767 from by decide]; omega
  have f14 : (8191 : Int32) < q1 := by rw [Int32.lt_iff_toInt_lt, show (8191 : Int32).toInt = 8191 from by decide]; omega
  have f15 : (8203 : Int32) < q1 := by rw [Int32.lt_iff_toInt_lt, show (8203 : Int32).toInt = 8203 from by decide]; omega
  have f16 : (8205 : Int32) < q1 := by rw [Int32.lt_iff_toInt_lt, show (8205 : Int32).toInt = 8205 from by decide]; omega
  have f17 : (8303 : Int32) < q1 := by rw [Int32.lt_iff_toInt_lt, show (8303 : Int32).toInt = 8303 from by decide]; omega
  have f18 : (8591 : Int32) < q1 := by rw [Int32.lt_iff_toInt_lt, show (8591 : Int32).toInt = 8591 from by decide]; omega
  have f19 : (879 : Int32) < q1 := by rw [Int32.lt_iff_toInt_lt, show (879 : Int32).toInt = 879 from by decide]; omega
  have f20 : (893 : Int32) < q1 := by rw [Int32.lt_iff_toInt_lt, show (893 : Int32).toInt = 893 from by decide]; omega
  have f21 : (90 : Int32) < q1 := by rw [Int32.lt_iff_toInt_lt, show (90 : Int32).toInt = 90 from by decide]; omega
  have f22 : ¬ (983039 : Int32) < q1 := by rw [Int32.lt_iff_toInt_lt, show (983039 : Int32).toInt = 983039 from by decide]; omega
  have f23 : ¬ q1 < (11264 : Int32) := by rw [Int32.lt_iff_toInt_lt, show (11264 : Int32).toInt = 11264 from by decide]; omega
  have f24 : ¬ q1 < (12272 : Int32) := by rw [Int32.lt_iff_toInt_lt, show (12272 : Int32).toInt = 12272 from by decide]; omega
  have f25 : ¬ q1 < (12289 : Int32) := by rw [Int32.lt_iff_toInt_lt, show (12289 : Int32).toInt = 12289 from by decide]; omega
  have f26 : ¬ q1 < (128 : Int32) := by rw [Int32.lt_iff_toInt_lt, show (128 : Int32).toInt = 128 from by decide]; omega
  have f27 : ¬ q1 < (192 : Int32) := by rw [Int32.lt_iff_toInt_lt, show (192 : Int32).toInt = 192 from by decide]; omega
  have f28 : ¬ q1 < (216 : Int32) := by rw [Int32.lt_iff_toInt_lt, show (216 : Int32).toInt = 216 from by decide]; omega
  have f29 : ¬ q1 < (248 : Int32) := by rw [Int32.lt_iff_toInt_lt, show (248 : Int32).toInt = 248 from by decide]; omega
  have f30 : ¬ q1 < (55296 : Int32) := by rw [Int32.lt_iff_toInt_lt, show (55296 : Int32).toInt = 55296 from by decide]; omega
  have f31 : ¬ q1 < (63744 : Int32) := by rw [Int32.lt_iff_toInt_lt, show (63744 : Int32).toInt = 63744 from by decide]; omega
  have f32 : q1 < (64976 : Int32) := by rw [Int32.lt_iff_toInt_lt, show (64976 : Int32).toInt = 64976 from by decide]; omega
  have f33 : ¬ q1 < (65 : Int32) := by rw [Int32.lt_iff_toInt_lt, show (65 : Int32).toInt = 65 from by decide]; omega
  have f34 : q1 < (65008 : Int32) := by rw [Int32.lt_iff_toInt_lt, show (65008 : Int32).toInt = 65008 from by decide]; omega
  have f35 : q1 < (65534 : Int32) := by rw [Int32.lt_iff_toInt_lt, show (65534 : Int32).toInt = 65534 from by decide]; omega
  have f36 : q1 < (65536 : Int32) := by rw [Int32.lt_iff_toInt_lt, show (65536 : Int32).toInt = 65536 from by decide]; omega
  have f37 : ¬ q1 < (768 : Int32) := by rw [Int32.lt_iff_toInt_lt, show (768 : Int32).toInt = 768 from by decide]; omega
  have f38 : ¬ q1 < (8192 : Int32) := by rw [Int32.lt_iff_toInt_lt, show (8192 : Int32).toInt = 8192 from by decide]; omega
  have f39 : ¬ q1 < (8204 : Int32) := by rw [Int32.lt_iff_toInt_lt, show (8204 : Int32).toInt = 8204 from by decide]; omega
  have f40 : ¬ q1 < (8206 : Int32) := by rw [Int32.lt_iff_toInt_lt, show (8206 : Int32).toInt = 8206 from by decide]; omega
  have f41 : ¬ q1 < (8304 : Int32) := by rw [Int32.lt_iff_toInt_lt, show (8304 : Int32).toInt = 8304 from by decide]; omega
  have f42 : ¬ q1 < (8592 : Int32) := by rw [Int32.lt_iff_toInt_lt, show (8592 : Int32).toInt = 8592 from by decide]; omega
  have f43 : ¬ q1 < (880 : Int32) := by rw [Int32.lt_iff_toInt_lt, show (880 : Int32).toInt = 880 from by decide]; omega
  have f44 : ¬ q1 < (895 : Int32) := by rw [Int32.lt_iff_toInt_lt, show (895 : Int32).toInt = 895 from by decide]; omega
  have f45 : ¬ q1 < (97 : Int32) := by rw [Int32.lt_iff_toInt_lt, show (97 : Int32).toInt = 97 from by decide]; omega
  have f46 : q1 < (983040 : Int32) := by rw [Int32.lt_iff_toInt_lt, show (983040 : Int32).toInt = 983040 from by decide]; omega
  have f47 : ¬ q1 = (215 : Int32) := by intro q; rw [q, show (215 : Int32).toInt = 215 from by decide] at h1 h2; omega
  have f48 : ¬ q1 = (247 : Int32) := by intro q; rw [q, show (247 : Int32).toInt = 247 from by decide] at h1 h2; omega
  have f49 : ¬ q1 = (58 : Int32) := by intro q; rw [q, show (58 : Int32).toInt = 58 from by decide] at h1 h2; omega
  have f50 : ¬ q1 = (894 : Int32) := by intro q; rw [q, show (894 : Int32).toInt = 894 from by decide] at h1 h2; omega
  have f51 : ¬ q1 = (95 : Int32) := by intro q; rw [q, show (95 : Int32).toInt = 95 from by decide] at h1 h2; omega
  simp [nb3_0, nb3_21, nb3_23, nb3_37, nb3_51, nb3_65, nb3_79, nb3_93, nb3_107, nb3_121, nb3_135, nb3_148, nb3_160, nb3_172, nb3_184, nb3_188, nb4_0, nb4_19, nb4_31, nb4_43, nb4_47, nb4_49, nb4_84, nb4_105, nb4_119, nb4_133, nb4_147, nb4_159, nb4_171, nb4_183, nb4_189, nb4_193, nb4_203, f0, f1, f2, f3, f4, f5, f6, f7, f8, f9, f10, f11, f12, f13, f14, f15, f16, f17, f18, f19, f20, f21, f22, f23, f24, f25, f26, f27, f28, f29, f30, f31, f32, f33, f34, f35, f36, f37, f38, f39, f40, f41, f42, f43, f44, f45, f46, f47, f48, f49, f50, f51]
theorem own_leaf20 (q1 : Int32) (h1 : 64976 ≤ q1.toInt) (h2 : q1.toInt < 65008) : nb3_0 q1 = nb4_0 q1 := by
  have f0 : (11263 : Int32) < q1 := by rw [Int32.lt_iff_toInt_lt, show (11263 : Int32).toInt = 11263 from by decide]; omega
  have f1 : (122 : Int32) < q1 := by rw [Int32.lt_iff_toInt_lt, show (122 : Int32).toInt = 122 from by decide]; omega
  have f2 : (12271 : Int32) < q1 := by rw [Int32.lt_iff_toInt_lt, show (12271 : Int32).toInt = 12271 from by decide]; omega
  have f3 : (12288 : Int32) < q1 := by rw [Int32.lt_iff_toInt_lt, show (12288 : Int32).toInt = 12288 from by decide]; omega
  have f4 : (191 : Int32) < q1 := by rw [Int32.lt_iff_toInt_lt, show (191 : Int32).toInt = 191 from by decide]; omega
  have f5 : (214 : Int32) < q1 := by rw [Int32.lt_iff_toInt_lt, show (214 : Int32).toInt = 214 from by decide]; omega
  have f6 : (246 : Int32) < q1 := by rw [Int32.lt_iff_toInt_lt, show (246 : Int32).toInt = 246 from by decide]; omega
  have f7 : (55295 : Int32) < q1 := by rw [Int32.lt_iff_toInt_lt, show (55295 : Int32).toInt = 55295 from by decide]; omega
  have f8 : (63743 : Int32) < q1 := by rw [Int32.lt_iff_toInt_lt, show (63743 : Int32).toInt = 63743 from by decide]; omega
  have f9 : (64975 : Int32) < q1 := by rw [Int32.lt_iff_toInt_lt, show (64975 : Int32).toInt = 64975 from by decide]; omega
  have f10 : ¬ (65007 : Int32) < q1 := by rw [Int32.lt_iff_toInt_lt, show (65007 : Int32).toInt = 65007 from by decide]; omega
  have f11 : ¬ (65533 : Int32) < q1 := by rw [Int32.lt_iff_toInt_lt, show (65533 : Int32).toInt = 65533 from by decide]; omega
  have f12 : ¬ (65535 : Int32) < q1 := by rw [Int32.lt_iff_toInt_lt, show (65535 : Int32).toInt = 65535 from by decide]; omega
  have f13 : (767 : Int32) < q1 := by rw [Int32.lt_iff_toInt_lt, show (767 : Int32).toInt = 767 from by decide]; omega
  have f14 : (8191 : Int32) < q1 := by rw [Int32.lt_iff_toInt_lt, show (8191 : Int32).toInt = 8191 from by decide]; omega
  have f15 : (8203 : Int32) < q1 := by rw [Int32.lt_iff_toInt_lt, show (8203 : Int32).toInt = 8203 from by decide]; omega
  have f16 : (8205 : Int32) < q1 := by rw [Int32.lt_iff_toInt_lt, show (8205 : Int32).toInt = 8205 from by decide]; omega
  have f17 : (8303 : Int32) < q1 := by rw [Int32.lt_iff_toInt_lt, show (8303 : Int32).toInt = 8303 from by decide]; omega
  have f18 : (8591 : Int32) < q1 := by rw [Int32.lt_iff_toInt_lt, show (8591 : Int32).toInt = 8591 from by decide]; omega
  have f19 : (879 : Int32) < q1 := by rw [Int32.lt_iff_toInt_lt, show (879 : Int32).toInt = 879 from by decide]; omega
  have f20 : (893 : Int32) < q1 := by rw [Int32.lt_iff_toInt_lt, show (893 : Int32).toInt = 893 from by decide]; omega
  have f21 : (90 : Int32) < q1 := by rw [Int32.lt_iff_toInt_lt, show (90 : Int32).toInt = 90 from by decide]; omega
  have f22 : ¬ (983039 : Int32) < q1 := by rw [Int32.lt_iff_toInt_lt, show (983039 : Int32).toInt = 983039 from by decide]; omega
  have f23 : ¬ q1 < (11264 : Int32) := by rw [Int32.lt_iff_toInt_lt, show (11264 : Int32).toInt = 11264 from by decide]; omega
  have f24 : ¬ q1 < (12272 : Int32) := by rw [Int32.lt_iff_toInt_lt, show (12272 : Int32).toInt = 12272 from by decide]; omega
  have f25 : ¬ q1 < (12289 : Int32) := by rw [Int32.lt_iff_toInt_lt, show (12289 : Int32).toInt = 12289 from by decide]; omega
  have f26 : ¬ q1 < (128 : Int32) := by rw [Int32.lt_iff_toInt_lt, show (128 : Int32).toInt = 128 from by decide]; omega
  have f27 : ¬ q1 < (192 : Int32) := by rw [Int32.lt_iff_toInt_lt, show (192 : Int32).toInt = 192 from by decide]; omega
  have f28 : ¬ q1 < (216 : Int32) := by rw [Int32.lt_iff_toInt_lt, show (216 : Int32).toInt = 216 from by decide]; omega
  have f29 : ¬ q1 < (248 : Int32) := by rw [Int32.lt_iff_toInt_lt, show (248 : Int32).toInt = 248 from by decide]; omega
  have f30 : ¬ q1 < (55296 : Int32) := by rw [Int32.lt_iff_toInt_lt, show (55296 : Int32).toInt = 55296 from by decide]; omega
  have f31 : ¬ q1 < (63744 : Int32) := by rw [Int32.lt_iff_toInt_lt, show (63744 : Int32).toInt = 63744 from by decide]; omega
  have f32 : ¬ q1 < (64976 : Int32) := by rw [Int32.lt_iff_toInt_lt, show (64976 : Int32).toInt = 64976 from by decide]; omega
  have f33 : ¬ q1 < (65 : Int32) := by rw [Int32.lt_iff_toInt_lt, show (65 : Int32).toInt = 65 from by decide]; omega
  have f34 : q1 < (65008 : Int32) := by rw [Int32.lt_iff_toInt_lt, show (65008 : Int32).toInt = 65008 from by decide]; omega
  have f35 : q1 < (65534 : Int32) := by rw [Int32.lt_iff_toInt_lt, show (65534 : Int32).toInt = 65534 from by decide]; omega
  have f36 : q1 < (65536 : Int32) := by rw [Int32.lt_iff_toInt_lt, show (65536 : Int32).toInt = 65536 from by decide]; omega
  have f37 : ¬ q1 < (768 : Int32) := by rw [Int32.lt_iff_toInt_lt, show (768 : Int32).toInt = 768 from by decide]; omega
  have f38 : ¬ q1 < (8192 : Int32) := by rw [Int32.lt_iff_toInt_lt, show (8192 : Int32).toInt = 8192 from by decide]; omega
  have f39 : ¬ q1 < (8204 : Int32) := by rw [Int32.lt_iff_toInt_lt, show (8204 : Int32).toInt = 8204 from by decide]; omega
  have f40 : ¬ q1 < (8206 : Int32) := by rw [Int32.lt_iff_toInt_lt, show (8206 : Int32).toInt = 8206 from by decide]; omega
  have f41 : ¬ q1 < (8304 : Int32) := by rw [Int32.lt_iff_toInt_lt, show (8304 : Int32).toInt = 8304 from by decide]; omega
  have f42 : ¬ q1 < (8592 : Int32) := by rw [Int32.lt_iff_toInt_lt, show (8592 : Int32).toInt = 8592 from by decide]; omega
  have f43 : ¬ q1 < (880 : Int32) := by rw [Int32.lt_iff_toInt_lt, show (880 : Int32).toInt = 880 from by decide]; omega
  have f44 : ¬ q1 < (895 : Int32) := by rw [Int32.lt_iff_toInt_lt, show (895 : Int32).toInt = 895 from by decide]; omega
  have f45 : ¬ q1 < (97 : Int32) := by rw [Int32.lt_iff_toInt_lt, show (97 : Int32).toInt = 97 from by decide]; omega
  have f46 : q1 < (983040 : Int32) := by rw [Int32.lt_iff_toInt_lt, show (983040 : Int32).toInt = 983040 from by decide]; omega
  have f47 : ¬ q1 = (215 : Int32) := by intro q; rw [q, show (215 : Int32).toInt = 215 from by decide] at h1 h2; omega
  have f48 : ¬ q1 = (247 : Int32) := by intro q; rw [q, show (247 : Int32).toInt = 247 from by decide] at h1 h2; omega
  have f49 : ¬ q1 = (58 : Int32) := by intro q; rw [q, show (58 : Int32).toInt = 58 from by decide] at h1 h2; omega
  have f50 : ¬ q1 = (894 : Int32) := by intro q; rw [q, show (894 : Int32).toInt = 894 from by decide] at h1 h2; omega
  have f51 : ¬ q1 = (95 : Int32) := by intro q; rw [q, show (95 : Int32).toInt = 95 from by decide] at h1 h2; omega
  simp [nb3_0, nb3_21, nb3_23, nb3_37, nb3_51, nb3_65, nb3_79, nb3_93, nb3_107, nb3_121, nb3_135, nb3_148, nb3_160, nb3_172, nb3_184, nb3_188, nb4_0, nb4_19, nb4_31, nb4_43, nb4_47, nb4_49, nb4_84, nb4_105, nb4_119, nb4_133, nb4_147, nb4_159, nb4_171, nb4_183, nb4_189, nb4_193, nb4_203, f0, f1, f2, f3, f4, f5, f6, f7, f8, f9, f10, f11, f12, f13, f14, f15, f16, f17, f18, f19, f20, f21, f22, f23, f24, f25, f26, f27, f28, f29, f30, f31, f32, f33, f34, f35, f36, f37, f38, f39, f40, f41, f42, f43, f44, f45, f46, f47, f48, f49, f50, f51]
theorem own_leaf21 (q1 : Int32) (h1 : 65008 ≤ q1.toInt) (h2 : q1.toInt < 65534) : nb3_0 q1 = nb4_0 q1 := by
  have f0 : (11263 : Int32) < q1 := by rw [Int32.lt_iff_toInt_lt, show (11263 : Int32).toInt = 11263 from by decide]; omega
  have f1 : (122 : Int32) < q1 := by rw [Int32.lt_iff_toInt_lt, show (122 : Int32).toInt = 122 from by decide]; omega
  have f2 : (12271 : Int32) < q1 := by rw [Int32.lt_iff_toInt_lt, show (12271 : Int32).toInt = 12271 from by decide]; omega
  have f3 : (12288 : Int32) < q1 := by rw [Int32.lt_iff_toInt_lt, show (12288 : Int32).toInt = 12288 from by decide]; omega
  have f4 : (191 : Int32) < q1 := by rw [Int32.lt_iff_toInt_lt, show (191 : Int32).toInt = 191 from by decide]; omega
  have f5 : (214 : Int32) < q1 := by rw [Int32.lt_iff_toInt_lt, show (214 : Int32).toInt = 214 from by decide]; omega
  have f6 : (246 : Int32) < q1 := by rw [Int32.lt_iff_toInt_lt, show (246 : Int32).toInt = 246 from by decide]; omega
  have f7 : (55295 : Int32) < q1 := by rw [Int32.lt_iff_toInt_lt, show (55295 : Int32).toInt = 55295 from by decide]; omega
  have f8 : (63743 : Int32) < q1 := by rw [Int32.lt_iff_toInt_lt, show (63743 : Int32).toInt = 63743 from by decide]; omega
  have f9 : (64975 : Int32) < q1 := by rw [Int32.lt_iff_toInt_lt, show (64975 : Int32).toInt = 64975 from by decide]; omega
  have f10 : (65007 : Int32) < q1 := by rw [Int32.lt_iff_toInt_lt, show (65007 : Int32).toInt = 65007 from by decide]; omega
  have f11 : ¬ (65533 : Int32) < q1 := by rw [Int32.lt_iff_toInt_lt, show (65533 : Int32).toInt = 65533 from by decide]; omega
  have f12 : ¬ (65535 : Int32) < q1 := by rw [Int32.lt_iff_toInt_lt, show (65535 : Int32).toInt = 65535 from by decide]; omega
  have f13 : (767 : Int32) < q1 := by rw [Int32.lt_iff_toInt_lt, show (767 : Int32).toInt = 767 from by decide]; omega
  have f14 : (8191 : Int32) < q1 := by rw [Int32.lt_iff_toInt_lt, show (8191 : Int32).toInt = 8191 from by decide]; omega
  have f15 : (8203 : Int32) < q1 := by rw [Int32.lt_iff_toInt_lt, show (8203 : Int32).toInt = 8203 from by decide]; omega
  have f16 : (8205 : Int32) < q1 := by rw [Int32.lt_iff_toInt_lt, show (8205 : Int32).toInt = 8205 from by decide]; omega
  have f17 : (8303 : Int32) < q1 := by rw [Int32.lt_iff_toInt_lt, show (8303 : Int32).toInt = 8303 from by decide]; omega
  have f18 : (8591 : Int32) < q1 := by rw [Int32.lt_iff_toInt_lt, show (8591 : Int32).toInt = 8591 from by decide]; omega
  have f19 : (879 : Int32) < q1 := by rw [Int32.lt_iff_toInt_lt, show (879 : Int32).toInt = 879 from by decide]; omega
  have f20 : (893 : Int32) < q1 := by rw [Int32.lt_iff_toInt_lt, show (893 : Int32).toInt = 893 from by decide]; omega
  have f21 : (90 : Int32) < q1 := by rw [Int32.lt_iff_toInt_lt, show (90 : Int32).toInt = 90 from by decide]; omega
  have f22 : ¬ (983039 : Int32) < q1 := by rw [Int32.lt_iff_toInt_lt, show (983039 : Int32).toInt = 983039 from by decide]; omega
  have f23 : ¬ q1 < (11264 : Int32) := by rw [Int32.lt_iff_toInt_lt, show (11264 : Int32).toInt = 11264 from by decide]; omega
  have f24 : ¬ q1 < (12272 : Int32) := by rw [Int32.lt_iff_toInt_lt, show (12272 : Int32).toInt = 12272 from by decide]; omega
  have f25 : ¬ q1 < (12289 : Int32) := by rw [Int32.lt_iff_toInt_lt, show (12289 : Int32).toInt = 12289 from by decide]; omega
  have f26 : ¬ q1 < (128 : Int32) := by rw [Int32.lt_iff_toInt_lt, show (128 : Int32).toInt = 128 from by decide]; omega
  have f27 : ¬ q1 < (192 : Int32) := by rw [Int32.lt_iff_toInt_lt, show (192 : Int32).toInt = 192 from by decide]; omega
  have f28 : ¬ q1 < (216 : Int32) := by rw [Int32.lt_iff_toInt_lt, show (216 : Int32).toInt = 216 from by decide]; omega
  have f29 : ¬ q1 < (248 : Int32) := by rw [Int32.lt_iff_toInt_lt, show (248 : Int32).toInt = 248 from by decide]; omega
  have f30 : ¬ q1 < (55296 : Int32) := by rw [Int32.lt_iff_toInt_lt, show (55296 : Int32).toInt = 55296 from by decide]; omega
  have f31 : ¬ q1 < (63744 : Int32) := by rw [Int32.lt_iff_toInt_lt, show (63744 : Int32).toInt = 63744 from by decide]; omega
  have f32 : ¬ q1 < (64976 : Int32) := by rw [Int32.lt_iff_toInt_lt, show (64976 : Int32).toInt = 64976 from by decide]; omega
  have f33 : ¬ q1 < (65 : Int32) := by rw [Int32.lt_iff_toInt_lt, show (65 : Int32).toInt = 65 from by decide]; omega
  have f34 : ¬ q1 < (65008 : Int32) := by rw [Int32.lt_iff_toInt_lt, show (65008 : Int32).toInt = 65008 from by decide]; omega
  have f35 : q1 < (65534 : Int32) := by rw [Int32.lt_iff_toInt_lt, show (65534 : Int32).toInt = 65534 from by decide]; omega
  have f36 : q1 < (65536 : Int32) := by rw [Int32.lt_iff_toInt_lt, show (65536 : Int32).toInt = 65536 from by decide]; omega
  have f37 : ¬ q1 < (768 : Int32) := by rw [Int32.lt_iff_toInt_lt, show (768 : Int32).toInt = 768 from by decide]; omega
  have f38 : ¬ q1 < (8192 : Int32) := by rw [Int32.lt_iff_toInt_lt, show (8192 : Int32).toInt = 8192 from by decide]; omega
  have f39 : ¬ q1 < (8204 : Int32) := by rw [Int32.lt_iff_toInt_lt, show (8204 : Int32).toInt = 8204 from by decide]; omega
  have f40 : ¬ q1 < (8206 : Int32) := by rw [Int32.lt_iff_toInt_lt, show (8206 : Int32).toInt = 8206 from by decide]; omega
  have f41 : ¬ q1 < (8304 : Int32) := by rw [Int32.lt_iff_toInt_lt, show (8304 : Int32).toInt = 8304 from by decide]; omega
  have f42 : ¬ q1 < (8592 : Int32) := by rw [Int32.lt_iff_toInt_lt, show (8592 : Int32).toInt = 8592 from by decide]; omega
  have f43 : ¬ q1 < (880 : Int32) := by rw [Int32.lt_iff_toInt_lt, show (880 : Int32).toInt = 880 from by decide]; omega
  have f44 : ¬ q1 < (895 : Int32) := by rw [Int32.lt_iff_toInt_lt, show (895 : Int32).toInt = 895 from by decide]; omega
  have f45 : ¬ q1 < (97 : Int32) := by rw [Int32.lt_iff_toInt_lt, show (97 : Int32).toInt = 97 from by decide]; omega
  have f46 : q1 < (983040 : Int32) := by rw [Int32.lt_iff_toInt_lt, show (983040 : Int32).toInt = 983040 from by decide]; omega
  have f47 : ¬ q1 = (215 : Int32) := by intro q; rw [q, show (215 : Int32).toInt = 215 from by decide] at h1 h2; omega
  have f48 : ¬ q1 = (247 : Int32) := by intro q; rw [q, show (247 : Int32).toInt = 247 from by decide] at h1 h2; omega
  have f49 : ¬ q1 = (58 : Int32) := by intro q; rw [q, show (58 : Int32).toInt = 58 from by decide] at h1 h2; omega
  have f50 : ¬ q1 = (894 : Int32) := by intro q; rw [q, show (894 : Int32).toInt = 894 from by decide] at h1 h2; omega
  have f51 : ¬ q1 = (95 : Int32) := by intro q; rw [q, show (95 : Int32).toInt = 95 from by decide] at h1 h2; omega
  simp [nb3_0, nb3_21, nb3_23, nb3_37, nb3_51, nb3_65, nb3_79, nb3_93, nb3_107, nb3_121, nb3_135, nb3_148, nb3_160, nb3_172, nb3_184, nb3_188, nb4_0, nb4_19, nb4_31, nb4_43, nb4_47, nb4_49, nb4_84, nb4_105, nb4_119, nb4_133, nb4_147, nb4_159, nb4_171, nb4_183, nb4_189, nb4_193, nb4_203, f0, f1, f2, f3, f4, f5, f6, f7, f8, f9, f10, f11, f12, f13, f14, f15, f16, f17, f18, f19, f20, f21, f22, f23, f24, f25, f26, f27, f28, f29, f30, f31, f32, f33, f34, f35, f36, f37, f38, f39, f40, f41, f42, f43, f44, f45, f46, f47, f48, f49, f50, f51]
theorem own_leaf22 (q1 : Int32) (h1 : 65534 ≤ q1.toInt) (h2 : q1.toInt < 65536) : nb3_0 q1 = nb4_0 q1 := by
  have f0 : (11263 : Int32) < q1 := by rw [Int32.lt_iff_toInt_lt, show (11263 : Int32).toInt = 11263 from by decide]; omega
  have f1 : (122 : Int32) < q1 := by rw [Int32.lt_iff_toInt_lt, show (122 : Int32).toInt = 122 from by decide]; omega
  have f2 : (12271 : Int32) < q1 := by rw [Int32.lt_iff_toInt_lt, show (12271 : Int32).toInt = 12271 from by decide]; omega
  have f3 : (12288 : Int32) < q1 := by rw [Int32.lt_iff_toInt_lt, show (12288 : Int32).toInt = 12288 from by decide]; omega
  have f4 : (191 : Int32) < q1 := by rw [Int32.lt_iff_toInt_lt, show (191 : Int32).toInt = 191 from by decide]; omega
  have f5 : (214 : Int32) < q1 := by rw [Int32.lt_iff_toInt_lt, show (214 : Int32).toInt = 214 from by decide]; omega
  have f6 : (246 : Int32) < q1 := by rw [Int32.lt_iff_toInt_lt, show (246 : Int32).toInt = 246 from by decide]; omega
  have f7 : (55295 : Int32) < q1 := by rw [Int32.lt_iff_toInt_lt, show (55295 : Int32).toInt = 55295 from by decide]; omega
  have f8 : (63743 : Int32) < q1 := by rw [Int32.lt_iff_toInt_lt, show (63743 : Int32).toInt = 63743 from by decide]; omega
  have f9 : (64975 : Int32) < q1 := by rw [Int32.lt_iff_toInt_lt, show (64975 : Int32).toInt = 64975 from by decide]; omega
  have f10 : (65007 : Int32) < q1 := by rw [Int32.lt_iff_toInt_lt, show (65007 : Int32).toInt = 65007 from by decide]; omega
  have f11 : (65533 : Int32) < q1 := by rw [Int32.lt_iff_toInt_lt, show (65533 : Int32).toInt = 65533 from by decide]; omega
  have f12 : ¬ (65535 : Int32) < q1 := by rw [Int32.lt_iff_toInt_lt, show (65535 : Int32).toInt = 65535 from by decide]; omega
  have f13 : (767 : Int32) < q1 := by rw [Int32.lt_iff_toInt_lt, show (767 : Int32).toInt = 767 from by decide]; omega
  have f14 : (8191 : Int32) < q1 := by rw [Int32.lt_iff_toInt_lt, show (8191 : Int32).toInt = 8191 from by decide]; omega
  have f15 : (8203 : Int32) < q1 := by rw [Int32.lt_iff_toInt_lt, show (8203 : Int32).toInt = 8203 from by decide]; omega
  have f16 : (8205 : Int32) < q1 := by rw [Int32.lt_iff_toInt_lt, show (8205 : Int32).toInt = 8205 from by decide]; omega
  have f17 : (8303 : Int32) < q1 := by rw [Int32.lt_iff_toInt_lt, show (8303 : Int32).toInt = 8303 from by decide]; omega
  have f18 : (8591 : Int32) < q1 := by rw [Int32.lt_iff_toInt_lt, show (8591 : Int32).toInt = 8591 from by decide]; omega
  have f19 : (879 : Int32) < q1 := by rw [Int32.lt_iff_toInt_lt, show (879 : Int32).toInt = 879 from by decide]; omega
  have f20 : (893 : Int32) < q1 := by rw [Int32.lt_iff_toInt_lt, show (893 : Int32).toInt = 893 from by decide]; omega
  have f21 : (90 : Int32) < q1 := by rw [Int32.lt_iff_toInt_lt, show (90 : Int32).toInt = 90 from by decide]; omega
  have f22 : ¬ (983039 : Int32) < q1 := by rw [Int32.lt_iff_toInt_lt, show (983039 : Int32).toInt = 983039 from by decide]; omega
  have f23 : ¬ q1 < (11264 : Int32) := by rw [Int32.lt_iff_toInt_lt, show (11264 : Int32).toInt = 11264 from by decide]; omega
  have f24 : ¬ q1 < (12272 : Int32) := by rw [Int32.lt_iff_toInt_lt, show (12272 : Int32).toInt = 12272 from by decide]; omega
  have f25 : ¬ q1 < (12289 : Int32) := by rw [Int32.lt_iff_toInt_lt, show (12289 : Int32).toInt = 12289 from by decide]; omega
  have f26 : ¬ q1 < (128 : Int32) := by rw [Int32.lt_iff_toInt_lt, show (128 : Int32).toInt = 128 from by decide]; omega
  have f27 : ¬ q1 < (192 : Int32) := by rw [Int32.lt_iff_toInt_lt, show (192 : Int32).toInt = 192 from by decide]; omega
  have f28 : ¬ q1 < (216 : Int32) := by rw [Int32.lt_iff_toInt_lt, show (216 : Int32).toInt = 216 from by decide]; omega
  have f29 : ¬ q1 < (248 : Int32) := by rw [Int32.lt_iff_toInt_lt, show (248 : Int32).toInt = 248 from by decide]; omega
  have f30 : ¬ q1 < (55296 : Int32) := by rw [Int32.lt_iff_toInt_lt, show (55296 : Int32).toInt = 55296 from by decide]; omega
  have f31 : ¬ q1 < (63744 : Int32) := by rw [Int32.lt_iff_toInt_lt, show (63744 : Int32).toInt = 63744 from by decide]; omega
  have f32 : ¬ q1 < (64976 : Int32) := by rw [Int32.lt_iff_toInt_lt, show (64976 : Int32).toInt = 64976 from by decide]; omega
  have f33 : ¬ q1 < (65 : Int32) := by rw [Int32.lt_iff_toInt_lt, show (65 : Int32).toInt = 65 from by decide]; omega
  have f34 : ¬ q1 < (65008 : Int32) := by rw [Int32.lt_iff_toInt_lt, show (65008 : Int32).toInt = 65008 from by decide]; omega
  have f35 : ¬ q1 < (65534 : Int32) := by rw [Int32.lt_iff_toInt_lt, show (65534 : Int32).toInt = 65534 from by decide]; omega
  have f36 : q1 < (65536 : Int32) := by rw [Int32.lt_iff_toInt_lt, show (65536 : Int32).toInt = 65536 from by decide]; omega
  have f37 : ¬ q1 < (768 : Int32) := by rw [Int32.lt_iff_toInt_lt, show (768 : Int32).toInt = 768 from by decide]; omega
  have f38 : ¬ q1 < (8192 : Int32) := by rw [Int32.lt_iff_toInt_lt, show (8192 : Int32).toInt = 8192 from by decide]; omega
  have f39 : ¬ q1 < (8204 : Int32) := by rw [Int32.lt_iff_toInt_lt, show (8204 : Int32).toInt = 8204 from by decide]; omega
  have f40 : ¬ q1 < (8206 : Int32) := by rw [Int32.lt_iff_toInt_lt, show (8206 : Int32).toInt = 8206 from by decide]; omega
  have f41 : ¬ q1 < (8304 : Int32) := by rw [Int32.lt_iff_toInt_lt, show (8304 : Int32).toInt = 8304 from by decide]; omega
  have f42 : ¬ q1 < (8592 : Int32) := by rw [Int32.lt_iff_toInt_lt, show (8592 : Int32).toInt = 8592 from by decide]; omega
  have f43 : ¬ q1 < (880 : Int32) := by rw [Int32.lt_iff_toInt_lt, show (880 : Int32).toInt = 880 from by decide]; omega
  have f44 : ¬ q1 < (895 : Int32) := by rw [Int32.lt_iff_toInt_lt, show (895 : Int32).toInt = 895 from by decide]; omega
  have f45 : ¬ q1 < (97 : Int32) := by rw [Int32.lt_iff_toInt_lt, show (97 : Int32).toInt = 97 from by decide]; omega
  have f46 : q1 < (983040 : Int32) := by rw [Int32.lt_iff_toInt_lt, show (983040 : Int32).toInt = 983040 from by decide]; omega
  have f47 : ¬ q1 = (215 : Int32) := by intro q; rw [q, show (215 : Int32).toInt = 215 from by decide] at h1 h2; omega
  have f48 : ¬ q1 = (247 : Int32) := by intro q; rw [q, show (247 : Int32).toInt = 247 from by decide] at h1 h2; omega
  have f49 : ¬ q1 = (58 : Int32) := by intro q; rw [q, show (58 : Int32).toInt = 58 from by decide] at h1 h2; omega
  have f50 : ¬ q1 = (894 : Int32) := by intro q; rw [q, show (894 : Int32).toInt = 894 from by decide] at h1 h2; omega
  have f51 : ¬ q1 = (95 : Int32) := by intro q; rw [q, show (95 : Int32).toInt = 95 from by decide] at h1 h2; omega
  simp [nb3_0, nb3_21, nb3_23, nb3_37, nb3_51, nb3_65, nb3_79, nb3_93, nb3_107, nb3_121, nb3_135, nb3_148, nb3_160, nb3_172, nb3_184, nb3_188, nb4_0, nb4_19, nb4_31, nb4_43, nb4_47, nb4_49, nb4_84, nb4_105, nb4_119, nb4_133, nb4_147, nb4_159, nb4_171, nb4_183, nb4_189, nb4_193, nb4_203, f0, f1, f2, f3, f4, f5, f6, f7, f8, f9, f10, f11, f12, f13, f14, f15, f16, f17, f18, f19, f20, f21, f22, f23, f24, f25, f26, f27, f28, f29, f30, f31, f32, f33, f34, f35, f36, f37, f38, f39, f40, f41, f42, f43, f44, f45, f46, f47, f48, f49, f50, f51]
theorem own_leaf23 (q1 : Int32) (h1 : 65536 ≤ q1.toInt) (h2 : q1.toInt < 983040) : nb3_0 q1 = nb4_0 q1 := by
  have f0 : (11263 : Int32) < q1 := by rw [Int32.lt_iff_toInt_lt, show (11263 : Int32).toInt = 11263 from by decide]; omega
  have f1 : (122 : Int32) < q1 := by rw [Int32.lt_iff_toInt_lt, show (122 : Int32).toInt = 122 from by decide]; omega
  have f2 : (12271 : Int32) < q1 := by rw [Int32.lt_iff_toInt_lt, show (12271 : Int32).toInt = 12271 from by decide]; omega
  have f3 : (12288 : Int32) < q1 := by rw [Int32.lt_iff_toInt_lt, show (12288 : Int32).toInt = 12288 from by decide]; omega
  have f4 : (191 : Int32) < q1 := by rw [Int32.lt_iff_toInt_lt, show (191 : Int32).toInt = 191 from by decide]; omega
  have f5 : (214 : Int32) < q1 := by rw [Int32.lt_iff_toInt_lt, show (214 : Int32).toInt = 214 from by decide]; omega
  have f6 : (246 : Int32) < q1 := by rw [Int32.lt_iff_toInt_lt, show (246 : Int32).toInt = 246 from by decide]; omega
  have f7 : (55295 : Int32) < q1 := by rw [Int32.lt_iff_toInt_lt, show (55295 : Int32).toInt = 55295 from by decide]; omega
  have f8 : (63743 : Int32) < q1 := by rw [Int32.lt_iff_toInt_lt, show (63743 : Int32).toInt = 63743 from by decide]; omega
  have f9 : (64975 : Int32) < q1 := by rw [Int32.lt_iff_toInt_lt, show (64975 : Int32).toInt = 64975 from by decide]; omega
  have f10 : (65007 : Int32) < q1 := by rw [Int32.lt_iff_toInt_lt, show (65007 : Int32).toInt = 65007 from by decide]; omega
  have f11 : (65533 : Int32) < q1 := by rw [Int32.lt_iff_toInt_lt, show (65533 : Int32).toInt = 65533 from by decide]; omega
  have f12 : (65535 : Int32) < q1 := by rw [Int32.lt_iff_toInt_lt, show (65535 : Int32).toInt = 65535 from by decide]; omega
  have f13 : (767 : Int32) < q1 := by rw [Int32.lt_iff_toInt_lt, show (767 : Int32).toInt = 767 from by decide]; omega
  have f14 : (8191 : Int32) < q1 := by rw [Int32.lt_iff_toInt_lt, show (8191 : Int32).toInt = 8191 from by decide]; omega
  have f15 : (8203 : Int32) < q1 := by rw [Int32.lt_iff_toInt_lt, show (8203 : Int32).toInt = 8203 from by decide]; omega
  have f16 : (8205 : Int32) < q1 := by rw [Int32.lt_iff_toInt_lt, show (8205 : Int32).toInt = 8205 from by decide]; omega
  have f17 : (8303 : Int32) < q1 := by rw [Int32.lt_iff_toInt_lt, show (8303 : Int32).toInt = 8303 from by decide]; omega
  have f18 : (8591 : Int32) < q1 := by rw [Int32.lt_iff_toInt_lt, show (8591 : Int32).toInt = 8591 from by decide]; omega
  have f19 : (879 : Int32) < q1 := by rw [Int32.lt_iff_toInt_lt, show (879 : Int32).toInt = 879 from by decide]; omega
  have f20 : (893 : Int32) < q1 := by rw [Int32.lt_iff_toInt_lt, show (893 : Int32).toInt = 893 from by decide]; omega
  have f21 : (90 : Int32) < q1 := by rw [Int32.lt_iff_toInt_lt, show (90 : Int32).toInt = 90 from by decide]; omega
  have f22 : ¬ (983039 : Int32) < q1 := by rw [Int32.lt_iff_toInt_lt, show (983039 : Int32).toInt = 983039 from by decide]; omega
  have f23 : ¬ q1 < (11264 : Int32) := by rw [Int32.lt_iff_toInt_lt, show (11264 : Int32).toInt = 11264 from by decide]; omega
  have f24 : ¬ q1 < (12272 : Int32) := by rw [Int32.lt_iff_toInt_lt, show (12272 : Int32).toInt = 12272 from by decide]; omega
  have f25 : ¬ q1 < (12289 : Int32) := by rw [Int32.lt_iff_toInt_lt, show (12289 : Int32).toInt = 12289 from by decide]; omega
  have f26 : ¬ q1 < (128 : Int32) := by rw [Int32.lt_iff_toInt_lt, show (128 : Int32).toInt = 128 from by decide]; omega
  have f27 : ¬ q1 < (192 : Int32) := by rw [Int32.lt_iff_toInt_lt, show (192 : Int32).toInt = 192 from by decide]; omega
  have f28 : ¬ q1 < (216 : Int32) := by rw [Int32.lt_iff_toInt_lt, show (216 : Int32).toInt = 216 from by decide]; omega
  have f29 : ¬ q1 < (248 : Int32) := by rw [Int32.lt_iff_toInt_lt, show (248 : Int32).toInt = 248 from by decide]; omega
  have f30 : ¬ q1 < (55296 : Int32) := by rw [Int32.lt_iff_toInt_lt, show (55296 : Int32).toInt = 55296 from by decide]; omega
  have f31 : ¬ q1 < (63744 : Int32) := by rw [Int32.lt_iff_toInt_lt, show (63744 : Int32).toInt = 63744 from by decide]; omega
  have f32 : ¬ q1 < (64976 : Int32) := by rw [Int32.lt_iff_toInt_lt, show (64976 : Int32).toInt = 64976 from by decide]; omega
  have f33 : ¬ q1 < (65 : Int32) := by rw [Int32.lt_iff_toInt_lt, show (65 : Int32).toInt = 65 from by decide]; omega
  have f34 : ¬ q1 < (65008 : Int32) := by rw [Int32.lt_iff_toInt_lt, show (65008 : Int32).toInt = 65008 from by decide]; omega
  have f35 : ¬ q1 < (65534 : Int32) := by rw [Int32.lt_iff_toInt_lt, show (65534 : Int32).toInt = 65534 from by decide]; omega
  have f36 : ¬ q1 < (65536 : Int32) := by rw [Int32.lt_iff_toInt_lt, show (65536 : Int32).toInt = 65536 from by decide]; omega
  have f37 : ¬ q1 < (768 : Int32) := by rw [Int32.lt_iff_toInt_lt, show (768 : Int32).toInt = 768 from by decide]; omega
  have f38 : ¬ q1 < (8192 : Int32) := by rw [Int32.lt_iff_toInt_lt, show (8192 : Int32).toInt = 8192 from by decide]; omega
  have f39 : ¬ q1 < (8204 : Int32) := by rw [Int32.lt_iff_toInt_lt, show (8204 : Int32).toInt = 8204 from by decide]; omega
  have f40 : ¬ q1 < (8206 : Int32) := by rw [Int32.lt_iff_toInt_lt, show (8206 : Int32).toInt = 8206 from by decide]; omega
  have f41 : ¬ q1 < (8304 : Int32) := by rw [Int32.lt_iff_toInt_lt, show (8304 : Int32).toInt = 8304 from by decide]; omega
  have f42 : ¬ q1 < (8592 : Int32) := by rw [Int32.lt_iff_toInt_lt, show (8592 : Int32).toInt = 8592 from by decide]; omega
  have f43 : ¬ q1 < (880 : Int32) := by rw [Int32.lt_iff_toInt_lt, show (880 : Int32).toInt = 880 from by decide]; omega
  have f44 : ¬ q1 < (895 : Int32) := by rw [Int32.lt_iff_toInt_lt, show (895 : Int32).toInt = 895 from by decide]; omega
  have f45 : ¬ q1 < (97 : Int32) := by rw [Int32.lt_iff_toInt_lt, show (97 : Int32).toInt = 97 from by decide]; omega
  have f46 : q1 < (983040 : Int32) := by rw [Int32.lt_iff_toInt_lt, show (983040 : Int32).toInt = 983040 from by decide]; omega
  have f47 : ¬ q1 = (215 : Int32) := by intro q; rw [q, show (215 : Int32).toInt = 215 from by decide] at h1 h2; omega
  have f48 : ¬ q1 = (247 : Int32) := by intro q; rw [q, show (247 : Int32).toInt = 247 from by decide] at h1 h2; omega
  have f49 : ¬ q1 = (58 : Int32) := by intro q; rw [q, show (58 : Int32).toInt = 58 from by decide] at h1 h2; omega
  have f50 : ¬ q1 = (894 : Int32) := by intro q; rw [q, show (894 : Int32).toInt = 894 from by decide] at h1 h2; omega
  have f51 : ¬ q1 = (95 : Int32) := by intro q; rw [q, show (95 : Int32).toInt = 95 from by decide] at h1 h2; omega
  simp [nb3_0, nb3_21, nb3_23, nb3_37, nb3_51, nb3_65, nb3_79, nb3_93, nb3_107, nb3_121, nb3_135, nb3_148, nb3_160, nb3_172, nb3_184, nb3_188, nb4_0, nb4_19, nb4_31, nb4_43, nb4_47, nb4_49, nb4_84, nb4_105, nb4_119, nb4_133, nb4_147, nb4_159, nb4_171, nb4_183, nb4_189, nb4_193, nb4_203, f0, f1, f2, f3, f4, f5, f6, f7, f8, f9, f10, f11, f12, f13, f14, f15, f16, f17, f18, f19, f20, f21, f22, f23, f24, f25, f26, f27, f28, f29, f30, f31, f32, f33, f34, f35, f36, f37, f38, f39, f40, f41, f42, f43, f44, f45, f46, f47, f48, f49, f50, f51]
theorem own_leaf24 (q1 : Int32) (h1 : 983040 ≤ q1.toInt) (h2 : q1.toInt < 1114112) : nb3_0 q1 = nb4_0 q1 := by
  have f0 : (11263 : Int32) < q1 := by rw [Int32.lt_iff_toInt_lt, show (11263 : Int32).toInt = 11263 from by decide]; omega
  have f1 : (122 : Int32) < q1 := by rw [Int32.lt_iff_toInt_lt, show (122 : Int32).toInt = 122 from by decide]; omega
  have f2 : (12271 : Int32) < q1 := by rw [Int32.lt_iff_toInt_lt, show (12271 : Int32).toInt = 12271 from by decide]; omega
  have f3 : (12288 : Int32) < q1 := by rw [Int32.lt_iff_toInt_lt, show (12288 : Int32).toInt = 12288 from by decide]; omega
  have f4 : (191 : Int32) < q1 := by rw [Int32.lt_iff_toInt_lt, show (191 : Int32).toInt = 191 from by decide]; omega
  have f5 : (214 : Int32) < q1 := by rw [Int32.lt_iff_toInt_lt, show (214 : Int32).toInt = 214 from by decide]; omega
  have f6 : (246 : Int32) < q1 := by rw [Int32.lt_iff_toInt_lt, show (246 : Int32).toInt = 246 from by decide]; omega
  have f7 : (55295 : Int32) < q1 := by rw [Int32.lt_iff_toInt_lt, show (55295 : Int32).toInt = 55295 from by decide]; omega
  have f8 : (63743 : Int32) < q1 := by rw [Int32.lt_iff_toInt_lt, show (63743 : Int32).toInt = 63743 from by decide]; omega
  have f9 : (64975 : Int32) < q1 := by rw [Int32.lt_iff_toInt_lt, show (64975 : Int32).toInt = 64975 from by decide]; omega
  have f10 : (65007 : Int32) < q1 := by rw [Int32.lt_iff_toInt_lt, show (65007 : Int32).toInt = 65007 from by decide]; omega
  have f11 : (65533 : Int32) < q1 := by rw [Int32.lt_iff_toInt_lt, show (65533 : Int32).toInt = 65533 from by decide]; omega
  have f12 : (65535 : Int32) < q1 := by rw [Int32.lt_iff_toInt_lt, show (65535 : Int32).toInt = 65535 from by decide]; omega
  have f13 : (767 : Int32) < q1 := by rw [Int32.lt_iff_toInt_lt, show (767 : Int32).toInt = 767 from by decide]; omega
  have f14 : (8191 : Int32) < q1 := by rw [Int32.lt_iff_toInt_lt, show (8191 : Int32).toInt = 8191 from by decide]; omega
  have f15 : (8203 : Int32) < q1 := by rw [Int32.lt_iff_toInt_lt, show (8203 : Int32).toInt = 8203 from by decide]; omega
  have f16 : (8205 : Int32) < q1 := by rw [Int32.lt_iff_toInt_lt, show (8205 : Int32).toInt = 8205 from by decide]; omega
  have f17 : (8303 : Int32) < q1 := by rw [Int32.lt_iff_toInt_lt, show (8303 : Int32).toInt = 8303 from by decide]; omega
  have f18 : (8591 : Int32) < q1 := by rw [Int32.lt_iff_toInt_lt, show (8591 : Int32).toInt = 8591 from by decide]; omega
  have f19 : (879 : Int32) < q1 := by rw [Int32.lt_iff_toInt_lt, show (879 : Int32).toInt = 879 from by decide]; omega
  have f20 : (893 : Int32) < q1 := by rw [Int32.lt_iff_toInt_lt, show (893 : Int32).toInt = 893 from by decide]; omega
  have f21 : (90 : Int32) < q1 := by rw [Int32.lt_iff_toInt_lt, show (90 : Int32).toInt = 90 from by decide]; omega
  have f22 : (983039 : Int32) < q1 := by rw [Int32.lt_iff_toInt_lt, show (983039 : Int32).toInt = 983039 from by decide]; omega
  have f23 : ¬ q1 < (11264 : Int32) := by rw [Int32.lt_iff_toInt_lt, show (11264 : Int32).toInt = 11264 from by decide]; omega
  have f24 : ¬ q1 < (12272 : Int32) := by rw [Int32.lt_iff_toInt_lt, show (12272 : Int32).toInt = 12272 from by decide]; omega
  have f25 : ¬ q1 < (12289 : Int32) := by rw [Int32.lt_iff_toInt_lt, show (12289 : Int32).toInt = 12289 from by decide]; omega
  have f26 : ¬ q1 < (128 : Int32) := by rw [Int32.lt_iff_toInt_lt, show (128 : Int32).toInt = 128 from by decide]; omega
  have f27 : ¬ q1 < (192 : Int32) := by rw [Int32.lt_iff_toInt_lt, show (192 : Int32).toInt = 192 from by decide]; omega
  have f28 : ¬ q1 < (216 : Int32) := by rw [Int32.lt_iff_toInt_lt, show (216 : Int32).toInt = 216 from by decide]; omega
  have f29 : ¬ q1 < (248 : Int32) := by rw [Int32.lt_iff_toInt_lt, show (248 : Int32).toInt = 248 from by decide]; omega
  have f30 : ¬ q1 < (55296 : Int32) := by rw [Int32.lt_iff_toInt_lt, show (55296 : Int32).toInt = 55296 from by decide]; omega
  have f31 : ¬ q1 < (63744 : Int32) := by rw [Int32.lt_iff_toInt_lt, show (63744 : Int32).toInt = 63744 from by decide]; omega
  have f32 : ¬ q1 < (64976 : Int32) := by rw [Int32.lt_iff_toInt_lt, show (64976 : Int32).toInt = 64976 from by decide]; omega
  have f33 : ¬ q1 < (65 : Int32) := by rw [Int32.lt_iff_toInt_lt, show (65 : Int32).toInt = 65 from by decide]; omega
  have f34 : ¬ q1 < (65008 : Int32) := by rw [Int32.lt_iff_toInt_lt, show (65008 : Int32).toInt = 65008 from by decide]; omega
  have f35 : ¬ q1 < (65534 : Int32) := by rw [Int32.lt_iff_toInt_lt, show (65534 : Int32).toInt = 65534 from by decide]; omega
  have f36 : ¬ q1 < (65536 : Int32) := by rw [Int32.lt_iff_toInt_lt, show (65536 : Int32).toInt = 65536 from by decide]; omega
  have f37 : ¬ q1 < (768 : Int32) := by rw [Int32.lt_iff_toInt_lt, show (768 : Int32).toInt = 768 from by decide]; omega
  have f38 : ¬ q1 < (8192 : Int32) := by rw [Int32.lt_iff_toInt_lt, show (8192 : Int32).toInt = 8192 from by decide]; omega
  have f39 : ¬ q1 < (8204 : Int32) := by rw [Int32.lt_iff_toInt_lt, show (8204 : Int32).toInt = 8204 from by decide]; omega
  have f40 : ¬ q1 < (8206 : Int32) := by rw [Int32.lt_iff_toInt_lt, show (8206 : Int32).toInt = 8206 from by decide]; omega
  have f41 : ¬ q1 < (8304 : Int32) := by rw [Int32.lt_iff_toInt_lt, show (8304 : Int32).toInt = 8304 from by decide]; omega
  have f42 : ¬ q1 < (8592 : Int32) := by rw [Int32.lt_iff_toInt_lt, show (8592 : Int32).toInt = 8592 from by decide]; omega
  have f43 : ¬ q1 < (880 : Int32) := by rw [Int32.lt_iff_toInt_lt, show (880 : Int32).toInt = 880 from by decide]; omega
  have f44 : ¬ q1 < (895 : Int32) := by rw [Int32.lt_iff_toInt_lt, show (895 : Int32).toInt = 895 from by decide]; omega
  have f45 : ¬ q1 < (97 : Int32) := by rw [Int32.lt_iff_toInt_lt, show (97 : Int32).toInt = 97 from by decide]; omega
  have f46 : ¬ q1 < (983040 : Int32) := by rw [Int32.lt_iff_toInt_lt, show (983040 : Int32).toInt = 983040 from by decide]; omega
  have f47 : ¬ q1 = (215 : Int32) := by intro q; rw [q, show (215 : Int32).toInt = 215 from by decide] at h1 h2; omega
  have f48 : ¬ q1 = (247 : Int32) := by intro q; rw [q, show (247 : Int32).toInt = 247 from by decide] at h1 h2; omega
  have f49 : ¬ q1 = (58 : Int32) := by intro q; rw [q, show (58 : Int32).toInt = 58 from by decide] at h1 h2; omega
  have f50 : ¬ q1 = (894 : Int32) := by intro q; rw [q, show (894 : Int32).toInt = 894 from by decide] at h1 h2; omega
  have f51 : ¬ q1 = (95 : Int32) := by intro q; rw [q, show (95 : Int32).toInt = 95 from by decide] at h1 h2; omega
  simp [nb3_0, nb3_21, nb3_23, nb3_37, nb3_51, nb3_65, nb3_79, nb3_93, nb3_107, nb3_121, nb3_135, nb3_148, nb3_160, nb3_172, nb3_184, nb3_188, nb4_0, nb4_19, nb4_31, nb4_43, nb4_47, nb4_49, nb4_84, nb4_105, nb4_119, nb4_133, nb4_147, nb4_159, nb4_171, nb4_183, nb4_189, nb4_193, nb4_203, f0, f1, f2, f3, f4, f5, f6, f7, f8, f9, f10, f11, f12, f13, f14, f15, f16, f17, f18, f19, f20, f21, f22, f23, f24, f25, f26, f27, f28, f29, f30, f31, f32, f33, f34, f35, f36, f37, f38, f39, f40, f41, f42, f43, f44, f45, f46, f47, f48, f49, f50, f51]
theorem own_same (q1 : Int32) (h0 : 0 ≤ q1.toInt) (h1 : q1.toInt ≤ 1114111) : nb3_0 q1 = nb4_0 q1 := by
  by_cases h : q1.toInt < 128
  · have e : q1 = Int32.ofNat q1.toInt.toNat := Int32.toInt_inj.mp (by rw [Int32.toInt_ofNat_of_lt (by omega)]; omega)
    rw [e]; exact own_low ⟨q1.toInt.toNat, by omega⟩
  by_cases k0 : q1.toInt < 192
  · exact own_leaf0 q1 (by omega) (by omega)
  by_cases k1 : q1.toInt < 215
  · exact own_leaf1 q1 (by omega) (by omega)
  by_cases k2 : q1.toInt < 216
  · exact own_leaf2 q1 (by omega) (by omega)
  by_cases k3 : q1.toInt < 247
  · exact own_leaf3 q1 (by omega) (by omega)
  by_cases k4 : q1.toInt < 248
  · exact own_leaf4 q1 (by omega) (by omega)
  by_cases k5 : q1.toInt < 768
  · exact own_leaf5 q1 (by omega) (by omega)
  by_cases k6 : q1.toInt < 880
  · exact own_leaf6 q1 (by omega) (by omega)
  by_cases k7 : q1.toInt < 894
  · exact own_leaf7 q1 (by omega) (by omega)
  by_cases k8 : q1.toInt < 895
  · exact own_leaf8 q1 (by omega) (by omega)
  by_cases k9 : q1.toInt < 8192
  · exact own_leaf9 q1 (by omega) (by omega)
  by_cases k10 : q1.toInt < 8204
  · exact own_leaf10 q1 (by omega) (by omega)
  by_cases k11 : q1.toInt < 8206
  · exact own_leaf11 q1 (by omega) (by omega)
  by_cases k12 : q1.toInt < 8304
  · exact own_leaf12 q1 (by omega) (by omega)
  by_cases k13 : q1.toInt < 8592
  · exact own_leaf13 q1 (by omega) (by omega)
  by_cases k14 : q1.toInt < 11264
  · exact own_leaf14 q1 (by omega) (by omega)
  by_cases k15 : q1.toInt < 12272
  · exact own_leaf15 q1 (by omega) (by omega)
  by_cases k16 : q1.toInt < 12289
  · exact own_leaf16 q1 (by omega) (by omega)
  by_cases k17 : q1.toInt < 55296
  · exact own_leaf17 q1 (by omega) (by omega)
  by_cases k18 : q1.toInt < 63744
  · exact own_leaf18 q1 (by omega) (by omega)
  by_cases k19 : q1.toInt < 64976
  · exact own_leaf19 q1 (by omega) (by omega)
  by_cases k20 : q1.toInt < 65008
  · exact own_leaf20 q1 (by omega) (by omega)
  by_cases k21 : q1.toInt < 65534
  · exact own_leaf21 q1 (by omega) (by omega)
  by_cases k22 : q1.toInt < 65536
  · exact own_leaf22 q1 (by omega) (by omega)
  by_cases k23 : q1.toInt < 983040
  · exact own_leaf23 q1 (by omega) (by omega)
  exact own_leaf24 q1 (by omega) (by omega)
theorem own_c1 (q : Int32) : 0 ≤ ((q &&& (2147483647 : Int32)) % (1114112 : Int32)).toInt ∧ ((q &&& (2147483647 : Int32)) % (1114112 : Int32)).toInt ≤ 1114111 := by
  have h := c_mask q (2147483647 : Int32) 31 (by decide) (by decide)
  have h2 := (c_irem (q &&& (2147483647 : Int32)) (1114112 : Int32) 1114112 (by decide)).1 (by omega)
  omega
theorem own_c2 (z : Int32) : 0 ≤ (own_maxI 0 (own_minI 1114111 z)).toInt ∧ (own_maxI 0 (own_minI 1114111 z)).toInt ≤ 1114111 := by
  have e0 : (0 : Int32).toInt = 0 := by decide
  have e1 : (1114111 : Int32).toInt = 1114111 := by decide
  have a : (own_minI 1114111 z).toInt ≤ 1114111 := by
    unfold own_minI; split
    · rename_i h; rw [Int32.lt_iff_toInt_lt] at h; omega
    · omega
  unfold own_maxI; split
  · rename_i h; rw [Int32.lt_iff_toInt_lt] at h; omega
  · omega
theorem own_ix (q : Int32) : ∃ i : Nat, i < 30 ∧ ((q.toUInt32 >>> ((1 : Int32) &&& 31).toUInt32).toInt32) % (30 : Int32) = Int32.ofNat i := by
  have h : ((q.toUInt32 >>> ((1 : Int32) &&& 31).toUInt32).toInt32).toInt = (q.toInt % 4294967296) / (2 ^ 1 : Nat) := c_iushr q 1 1 (by decide) (by decide)
  have h2 := (c_irem ((q.toUInt32 >>> ((1 : Int32) &&& 31).toUInt32).toInt32) (30 : Int32) 30 (by decide)).1 (by omega)
  refine ⟨(((q.toUInt32 >>> ((1 : Int32) &&& 31).toUInt32).toInt32) % (30 : Int32)).toInt.toNat, by omega, Int32.toInt_inj.mp ?_⟩
  rw [Int32.toInt_ofNat_of_lt (by omega)]; omega
theorem own_128 (q1 : Int32) (h0 : 0 ≤ q1.toInt) (h : q1 < 128) : q1.toNatClampNeg < 128 := by
  rw [Int32.lt_iff_toInt_lt, show (128 : Int32).toInt = 128 from by decide] at h
  show q1.toInt.toNat < 128
  omega
theorem own_nn (q1 : Int32) (h0 : 0 ≤ q1.toInt) : ¬ q1 < 0 := by
  rw [Int32.lt_iff_toInt_lt, show (0 : Int32).toInt = 0 from by decide]; omega
theorem ef_0_III (m : MethodId) (x0 : Int32) (x1 : Int32) (x2 : Int32) : entryFrame m #[(.int x0), (.int x1), (.int x2)] maxLocals = mkF m 0 #[.val (.int x0), .val (.int x1), .val (.int x2), .unset, .unset, .unset] [] := by first | (simp [entryFrame, mkF, argsToLocals, Value.category, maxLocals]; done) | rfl
theorem pd_0 : parseMethodDescriptor "(I)Z" = some ⟨[.int], some .boolean⟩ := by decide +kernel
theorem pd_1 : parseMethodDescriptor "(II)I" = some ⟨[.int, .int], some .int⟩ := by decide +kernel
set_option maxRecDepth 65536 in
set_option maxHeartbeats 40000000 in
theorem rm0 (l : Launch) (Z : State) (a0 : Array Value) (hw : ∀ d ∈ tables_1, d.before a0 Z = true) (ws : List Jvm.Cond) (q1 : Int32) (q2 : Int32) (q3 : Int32) (b1 : Addr) (h0 : Heap) (n0 : Nat) (Z0 : n0 ≤ h0.size) (S_ASCII : Sta Z h0 "com/example/cartulary/cartulary/XmlNames" "ASCII" "[B" (.ref b1)) (A_b1 : OAr Z h0 b1 .byte 128 (fun j => .int (own_tab j))) :
    OMet l Z x code maxLocals ret ws room_1 #[(.int q1), (.int q2), (.int q3)] h0 (OLawQ n0) := by
  refine own_body (plainFor_of_name pn_com_example_cartulary_cartulary_XmlNamesIsNameStartPinLaw) (fun m => ef_0_III m q1 q2 q3) ?_
  intro p e s m below meth c T0 hx hby hml hown hnm hret hlk hZ X0 e0
  have hown : s.vm.findClass "com/example/cartulary/cartulary/XmlNamesIsNameStartPinLaw" = some m.cls := hown
  have hml : c.maxLocals = 6 := hml
  show OGo p e below s _ _ (T0.setTop (mkF m 0 #[.val (.int q1), .val (.int q2), .val (.int q3), .unset, .unset, .unset] []))
  have N0 := Fr.nil n0
  refine own_st (fun t k => XS.bipush X0.here hx rfl (hb hby at_0) k) ?_
  show OGo p e below s room_1 (OLawQ n0) (T0.setTop (mkF m 2 #[.val (.int q1), .val (.int q2), .val (.int q3), .unset, .unset, .unset] [(.int (30 : Int32))]))
  obtain ⟨T3, hp3, kk3, X3, e3, Ex3, Aa3, st3⟩ := newP X0 hx hZ (hw _ (List.mem_of_getElem? (i := 0) rfl)) e0 (g := (mkF m 2 #[.val (.int q1), .val (.int q2), .val (.int q3), .unset, .unset, .unset] [(.int (30 : Int32))])) rfl (hb hby at_2) rfl (by decide) (cap := 30) (by decide) (by decide) (by decide) (by decide)
  obtain ⟨b2, gs3⟩ : ∃ z, z = h0.size := ⟨_, rfl⟩
  rw [← gs3] at Aa3 st3
  have ne_b1_b2 : b1 ≠ b2 := Nat.ne_of_lt (Nat.lt_of_lt_of_le A_b1.lt (Nat.le_of_eq gs3.symm))
  have old_b2 : n0 ≤ b2 := Nat.le_trans Z0 (Nat.le_of_eq gs3.symm)
  have Z0 := Nat.le_trans Z0 Ex3.1
  have S_ASCII := S_ASCII.ext Ex3
  have A_b1 := A_b1.ext Ex3
  have A_b2 : OIn Z hp3 b2 30 := OIn.new Aa3
  refine own_st st3 ?_
  show OGo p e below s room_1 (OLawQ n0) (T3.setTop (mkF m 4 #[.val (.int q1), .val (.int q2), .val (.int q3), .unset, .unset, .unset] [(.ref b2)]))
  refine own_st (fun t k => XS.dup X3.here hx rfl (hb hby at_4) rfl rfl k) ?_
  show OGo p e below s room_1 (OLawQ n0) (T3.setTop (mkF m 5 #[.val (.int q1), .val (.int q2), .val (.int q3), .unset, .unset, .unset] [(.ref b2), (.ref b2)]))
  refine own_st (fun t k => XS.iconst X3.here hx rfl (hb hby at_5) k) ?_
  show OGo p e below s room_1 (OLawQ n0) (T3.setTop (mkF m 6 #[.val (.int q1), .val (.int q2), .val (.int q3), .unset, .unset, .unset] [(.int (0 : Int32)), (.ref b2), (.ref b2)]))
  refine own_st (fun t k => XS.iconst X3.here hx rfl (hb hby at_6) k) ?_
  show OGo p e below s room_1 (OLawQ n0) (T3.setTop (mkF m 7 #[.val (.int q1), .val (.int q2), .val (.int q3), .unset, .unset, .unset] [(.int (0 : Int32)), (.int (0 : Int32)), (.ref b2), (.ref b2)]))
  obtain ⟨cl4, Ar4, Sz4, Hh4⟩ := id A_b2
  obtain ⟨T4, hp4, X4, e4, Ww4, st4⟩ := stI X3 hx hZ e3 Ar4 (j := (0 : Int32)) (own_in Sz4 (by decide) (by decide)) (g := (mkF m 7 #[.val (.int q1), .val (.int q2), .val (.int q3), .unset, .unset, .unset] [(.int (0 : Int32)), (.int (0 : Int32)), (.ref b2), (.ref b2)])) rfl rfl (hb hby at_7)
  have Nf4 := Fr.snoc X4 N0 old_b2
  have Z0 := Nat.le_trans Z0 (Keep.of_wr Ww4).1
  have S_ASCII := S_ASCII.wr Ww4
  have A_b1 := A_b1.other Ww4 ne_b1_b2
  have A_b2 := OIn.set Ar4 Sz4 Hh4 Ww4
  refine own_st st4 ?_
  show OGo p e below s room_1 (OLawQ n0) (T4.setTop (mkF m 8 #[.val (.int q1), .val (.int q2), .val (.int q3), .unset, .unset, .unset] [(.ref b2)]))
  refine own_st (fun t k => XS.dup X4.here hx rfl (hb hby at_8) rfl rfl k) ?_
  show OGo p e below s room_1 (OLawQ n0) (T4.setTop (mkF m 9 #[.val (.int q1), .val (.int q2), .val (.int q3), .unset, .unset, .unset] [(.ref b2), (.ref b2)]))
  refine own_st (fun t k => XS.iconst X4.here hx rfl (hb hby at_9) k) ?_
  show OGo p e below s room_1 (OLawQ n0) (T4.setTop (mkF m 10 #[.val (.int q1), .val (.int q2), .val (.int q3), .unset, .unset, .unset] [(.int (1 : Int32)), (.ref b2), (.ref b2)]))
  refine own_st (fun t k => XS.bipush X4.here hx rfl (hb hby at_10) k) ?_
  show OGo p e below s room_1 (OLawQ n0) (T4.setTop (mkF m 12 #[.val (.int q1), .val (.int q2), .val (.int q3), .unset, .unset, .unset] [(.int (58 : Int32)), (.int (1 : Int32)), (.ref b2), (.ref b2)]))
  obtain ⟨cl5, Ar5, Sz5, Hh5⟩ := id A_b2
  obtain ⟨T5, hp5, X5, e5, Ww5, st5⟩ := stI X4 hx hZ e4 Ar5 (j := (1 : Int32)) (own_in Sz5 (by decide) (by decide)) (g := (mkF m 12 #[.val (.int q1), .val (.int q2), .val (.int q3), .unset, .unset, .unset] [(.int (58 : Int32)), (.int (1 : Int32)), (.ref b2), (.ref b2)])) rfl rfl (hb hby at_12)
  have Nf5 := Fr.snoc X5 Nf4 old_b2
  have Z0 := Nat.le_trans Z0 (Keep.of_wr Ww5).1
  have S_ASCII := S_ASCII.wr Ww5
  have A_b1 := A_b1.other Ww5 ne_b1_b2
  have A_b2 := OIn.set Ar5 Sz5 Hh5 Ww5
  refine own_st st5 ?_
  show OGo p e below s room_1 (OLawQ n0) (T5.setTop (mkF m 13 #[.val (.int q1), .val (.int q2), .val (.int q3), .unset, .unset, .unset] [(.ref b2)]))
  refine own_st (fun t k => XS.dup X5.here hx rfl (hb hby at_13) rfl rfl k) ?_
  show OGo p e below s room_1 (OLawQ n0) (T5.setTop (mkF m 14 #[.val (.int q1), .val (.int q2), .val (.int q3), .unset, .unset, .unset] [(.ref b2), (.ref b2)]))
  refine own_st (fun t k => XS.iconst X5.here hx rfl (hb hby at_14) k) ?_
  show OGo p e below s room_1 (OLawQ n0) (T5.setTop (mkF m 15 #[.val (.int q1), .val (.int q2), .val (.int q3), .unset, .unset, .unset] [(.int (2 : Int32)), (.ref b2), (.ref b2)]))
  refine own_st (fun t k => XS.bipush X5.here hx rfl (hb hby at_15) k) ?_
  show OGo p e below s room_1 (OLawQ n0) (T5.setTop (mkF m 17 #[.val (.int q1), .val (.int q2), .val (.int q3), .unset, .unset, .unset] [(.int (65 : Int32)), (.int (2 : Int32)), (.ref b2), (.ref b2)]))
  obtain ⟨cl6, Ar6, Sz6, Hh6⟩ := id A_b2
  obtain ⟨T6, hp6, X6, e6, Ww6, st6⟩ := stI X5 hx hZ e5 Ar6 (j := (2 : Int32)) (own_in Sz6 (by decide) (by decide)) (g := (mkF m 17 #[.val (.int q1), .val (.int q2), .val (.int q3), .unset, .unset, .unset] [(.int (65 : Int32)), (.int (2 : Int32)), (.ref b2), (.ref b2)])) rfl rfl (hb hby at_17)
  have Nf6 := Fr.snoc X6 Nf5 old_b2
  have Z0 := Nat.le_trans Z0 (Keep.of_wr Ww6).1
  have S_ASCII := S_ASCII.wr Ww6
  have A_b1 := A_b1.other Ww6 ne_b1_b2
  have A_b2 := OIn.set Ar6 Sz6 Hh6 Ww6
  refine own_st st6 ?_
  show OGo p e below s room_1 (OLawQ n0) (T6.setTop (mkF m 18 #[.val (.int q1), .val (.int q2), .val (.int q3), .unset, .unset, .unset] [(.ref b2)]))
  refine own_st (fun t k => XS.dup X6.here hx rfl (hb hby at_18) rfl rfl k) ?_
  show OGo p e below s room_1 (OLawQ n0) (T6.setTop (mkF m 19 #[.val (.int q1), .val (.int q2), .val (.int q3), .unset, .unset, .unset] [(.ref b2), (.ref b2)]))
  refine own_st (fun t k => XS.iconst X6.here hx rfl (hb hby at_19) k) ?_
  show OGo p e below s room_1 (OLawQ n0) (T6.setTop (mkF m 20 #[.val (.int q1), .val (.int q2), .val (.int q3), .unset, .unset, .unset] [(.int (3 : Int32)), (.ref b2), (.ref b2)]))
  refine own_st (fun t k => XS.bipush X6.here hx rfl (hb hby at_20) k) ?_
  show OGo p e below s room_1 (OLawQ n0) (T6.setTop (mkF m 22 #[.val (.int q1), .val (.int q2), .val (.int q3), .unset, .unset, .unset] [(.int (90 : Int32)), (.int (3 : Int32)), (.ref b2), (.ref b2)]))
  obtain ⟨cl7, Ar7, Sz7, Hh7⟩ := id A_b2
  obtain ⟨T7, hp7, X7, e7, Ww7, st7⟩ := stI X6 hx hZ e6 Ar7 (j := (3 : Int32)) (own_in Sz7 (by decide) (by decide)) (g := (mkF m 22 #[.val (.int q1), .val (.int q2), .val (.int q3), .unset, .unset, .unset] [(.int (90 : Int32)), (.int (3 : Int32)), (.ref b2), (.ref b2)])) rfl rfl (hb hby at_22)
  have Nf7 := Fr.snoc X7 Nf6 old_b2
  have Z0 := Nat.le_trans Z0 (Keep.of_wr Ww7).1
  have S_ASCII := S_ASCII.wr Ww7
  have A_b1 := A_b1.other Ww7 ne_b1_b2
  have A_b2 := OIn.set Ar7 Sz7 Hh7 Ww7
  refine own_st st7 ?_
  show OGo p e below s room_1 (OLawQ n0) (T7.setTop (mkF m 23 #[.val (.int q1), .val (.int q2), .val (.int q3), .unset, .unset, .unset] [(.ref b2)]))
  refine own_st (fun t k => XS.dup X7.here hx rfl (hb hby at_23) rfl rfl k) ?_
  show OGo p e below s room_1 (OLawQ n0) (T7.setTop (mkF m 24 #[.val (.int q1), .val (.int q2), .val (.int q3), .unset, .unset, .unset] [(.ref b2), (.ref b2)]))
  refine own_st (fun t k => XS.iconst X7.here hx rfl (hb hby at_24) k) ?_
  show OGo p e below s room_1 (OLawQ n0) (T7.setTop (mkF m 25 #[.val (.int q1), .val (.int q2), .val (.int q3), .unset, .unset, .unset] [(.int (4 : Int32)), (.ref b2), (.ref b2)]))
  refine own_st (fun t k => XS.bipush X7.here hx rfl (hb hby at_25) k) ?_
  show OGo p e below s room_1 (OLawQ n0) (T7.setTop (mkF m 27 #[.val (.int q1), .val (.int q2), .val (.int q3), .unset, .unset, .unset] [(.int (95 : Int32)), (.int (4 : Int32)), (.ref b2), (.ref b2)]))
  obtain ⟨cl8, Ar8, Sz8, Hh8⟩ := id A_b2
  obtain ⟨T8, hp8, X8, e8, Ww8, st8⟩ := stI X7 hx hZ e7 Ar8 (j := (4 : Int32)) (own_in Sz8 (by decide) (by decide)) (g := (mkF m 27 #[.val (.int q1), .val (.int q2), .val (.int q3), .unset, .unset, .unset] [(.int (95 : Int32)), (.int (4 : Int32)), (.ref b2), (.ref b2)])) rfl rfl (hb hby at_27)
  have Nf8 := Fr.snoc X8 Nf7 old_b2
  have Z0 := Nat.le_trans Z0 (Keep.of_wr Ww8).1
  have S_ASCII := S_ASCII.wr Ww8
  have A_b1 := A_b1.other Ww8 ne_b1_b2
  have A_b2 := OIn.set Ar8 Sz8 Hh8 Ww8
  refine own_st st8 ?_
  show OGo p e below s room_1 (OLawQ n0) (T8.setTop (mkF m 28 #[.val (.int q1), .val (.int q2), .val (.int q3), .unset, .unset, .unset] [(.ref b2)]))
  refine own_st (fun t k => XS.dup X8.here hx rfl (hb hby at_28) rfl rfl k) ?_
  show OGo p e below s room_1 (OLawQ n0) (T8.setTop (mkF m 29 #[.val (.int q1), .val (.int q2), .val (.int q3), .unset, .unset, .unset] [(.ref b2), (.ref b2)]))
  refine own_st (fun t k => XS.iconst X8.here hx rfl (hb hby at_29) k) ?_
  show OGo p e below s room_1 (OLawQ n0) (T8.setTop (mkF m 30 #[.val (.int q1), .val (.int q2), .val (.int q3), .unset, .unset, .unset] [(.int (5 : Int32)), (.ref b2), (.ref b2)]))
  refine own_st (fun t k => XS.bipush X8.here hx rfl (hb hby at_30) k) ?_
  show OGo p e below s room_1 (OLawQ n0) (T8.setTop (mkF m 32 #[.val (.int q1), .val (.int q2), .val (.int q3), .unset, .unset, .unset] [(.int (97 : Int32)), (.int (5 : Int32)), (.ref b2), (.ref b2)]))
  obtain ⟨cl9, Ar9, Sz9, Hh9⟩ := id A_b2
  obtain ⟨T9, hp9, X9, e9, Ww9, st9⟩ := stI X8 hx hZ e8 Ar9 (j := (5 : Int32)) (own_in Sz9 (by decide) (by decide)) (g := (mkF m 32 #[.val (.int q1), .val (.int q2), .val (.int q3), .unset, .unset, .unset] [(.int (97 : Int32)), (.int (5 : Int32)), (.ref b2), (.ref b2)])) rfl rfl (hb hby at_32)
  have Nf9 := Fr.snoc X9 Nf8 old_b2
  have Z0 := Nat.le_trans Z0 (Keep.of_wr Ww9).1
  have S_ASCII := S_ASCII.wr Ww9
  have A_b1 := A_b1.other Ww9 ne_b1_b2
  have A_b2 := OIn.set Ar9 Sz9 Hh9 Ww9
  refine own_st st9 ?_
  show OGo p e below s room_1 (OLawQ n0) (T9.setTop (mkF m 33 #[.val (.int q1), .val (.int q2), .val (.int q3), .unset, .unset, .unset] [(.ref b2)]))
  refine own_st (fun t k => XS.dup X9.here hx rfl (hb hby at_33) rfl rfl k) ?_
  show OGo p e below s room_1 (OLawQ n0) (T9.setTop (mkF m 34 #[.val (.int q1), .val (.int q2), .val (.int q3), .unset, .unset, .unset] [(.ref b2), (.ref b2)]))
  refine own_st (fun t k => XS.bipush X9.here hx rfl (hb hby at_34) k) ?_
  show OGo p e below s room_1 (OLawQ n0) (T9.setTop (mkF m 36 #[.val (.int q1), .val (.int q2), .val (.int q3), .unset, .unset, .unset] [(.int (6 : Int32)), (.ref b2), (.ref b2)]))
  refine own_st (fun t k => XS.bipush X9.here hx rfl (hb hby at_36) k) ?_
  show OGo p e below s room_1 (OLawQ n0) (T9.setTop (mkF m 38 #[.val (.int q1), .val (.int q2), .val (.int q3), .unset, .unset, .unset] [(.int (122 : Int32)), (.int (6 : Int32)), (.ref b2), (.ref b2)]))
  obtain ⟨cl10, Ar10, Sz10, Hh10⟩ := id A_b2
  obtain ⟨T10, hp10, X10, e10, Ww10, st10⟩ := stI X9 hx hZ e9 Ar10 (j := (6 : Int32)) (own_in Sz10 (by decide) (by decide)) (g := (mkF m 38 #[.val (.int q1), .val (.int q2), .val (.int q3), .unset, .unset, .unset] [(.int (122 : Int32)), (.int (6 : Int32)), (.ref b2), (.ref b2)])) rfl rfl (hb hby at_38)
  have Nf10 := Fr.snoc X10 Nf9 old_b2
  have Z0 := Nat.le_trans Z0 (Keep.of_wr Ww10).1
  have S_ASCII := S_ASCII.wr Ww10
  have A_b1 := A_b1.other Ww10 ne_b1_b2
  have A_b2 := OIn.set Ar10 Sz10 Hh10 Ww10
  refine own_st st10 ?_
  show OGo p e below s room_1 (OLawQ n0) (T10.setTop (mkF m 39 #[.val (.int q1), .val (.int q2), .val (.int q3), .unset, .unset, .unset] [(.ref b2)]))
  refine own_st (fun t k => XS.dup X10.here hx rfl (hb hby at_39) rfl rfl k) ?_
  show OGo p e below s room_1 (OLawQ n0) (T10.setTop (mkF m 40 #[.val (.int q1), .val (.int q2), .val (.int q3), .unset, .unset, .unset] [(.ref b2), (.ref b2)]))
  refine own_st (fun t k => XS.bipush X10.here hx rfl (hb hby at_40) k) ?_
  show OGo p e below s room_1 (OLawQ n0) (T10.setTop (mkF m 42 #[.val (.int q1), .val (.int q2), .val (.int q3), .unset, .unset, .unset] [(.int (7 : Int32)), (.ref b2), (.ref b2)]))
  refine own_st (fun t k => XS.sipush X10.here hx rfl (hb hby at_42) k) ?_
  show OGo p e below s room_1 (OLawQ n0) (T10.setTop (mkF m 45 #[.val (.int q1), .val (.int q2), .val (.int q3), .unset, .unset, .unset] [(.int (128 : Int32)), (.int (7 : Int32)), (.ref b2), (.ref b2)]))
  obtain ⟨cl11, Ar11, Sz11, Hh11⟩ := id A_b2
  obtain ⟨T11, hp11, X11, e11, Ww11, st11⟩ := stI X10 hx hZ e10 Ar11 (j := (7 : Int32)) (own_in Sz11 (by decide) (by decide)) (g := (mkF m 45 #[.val (.int q1), .val (.int q2), .val (.int q3), .unset, .unset, .unset] [(.int (128 : Int32)), (.int (7 : Int32)), (.ref b2), (.ref b2)])) rfl rfl (hb hby at_45)
  have Nf11 := Fr.snoc X11 Nf10 old_b2
  have Z0 := Nat.le_trans Z0 (Keep.of_wr Ww11).1
  have S_ASCII := S_ASCII.wr Ww11
  have A_b1 := A_b1.other Ww11 ne_b1_b2
  have A_b2 := OIn.set Ar11 Sz11 Hh11 Ww11
  refine own_st st11 ?_
  show OGo p e below s room_1 (OLawQ n0) (T11.setTop (mkF m 46 #[.val (.int q1), .val (.int q2), .val (.int q3), .unset, .unset, .unset] [(.ref b2)]))
  refine own_st (fun t k => XS.dup X11.here hx rfl (hb hby at_46) rfl rfl k) ?_
  show OGo p e below s room_1 (OLawQ n0) (T11.setTop (mkF m 47 #[.val (.int q1), .val (.int q2), .val (.int q3), .unset, .unset, .unset] [(.ref b2), (.ref b2)]))
  refine own_st (fun t k => XS.bipush X11.here hx rfl (hb hby at_47) k) ?_
  show OGo p e below s room_1 (OLawQ n0) (T11.setTop (mkF m 49 #[.val (.int q1), .val (.int q2), .val (.int q3), .unset, .unset, .unset] [(.int (8 : Int32)), (.ref b2), (.ref b2)]))
  refine own_st (fun t k => XS.sipush X11.here hx rfl (hb hby at_49) k) ?_
  show OGo p e below s room_1 (OLawQ n0) (T11.setTop (mkF m 52 #[.val (.int q1), .val (.int q2), .val (.int q3), .unset, .unset, .unset] [(.int (192 : Int32)), (.int (8 : Int32)), (.ref b2), (.ref b2)]))
  obtain ⟨cl12, Ar12, Sz12, Hh12⟩ := id A_b2
  obtain ⟨T12, hp12, X12, e12, Ww12, st12⟩ := stI X11 hx hZ e11 Ar12 (j := (8 : Int32)) (own_in Sz12 (by decide) (by decide)) (g := (mkF m 52 #[.val (.int q1), .val (.int q2), .val (.int q3), .unset, .unset, .unset] [(.int (192 : Int32)), (.int (8 : Int32)), (.ref b2), (.ref b2)])) rfl rfl (hb hby at_52)
  have Nf12 := Fr.snoc X12 Nf11 old_b2
  have Z0 := Nat.le_trans Z0 (Keep.of_wr Ww12).1
  have S_ASCII := S_ASCII.wr Ww12
  have A_b1 := A_b1.other Ww12 ne_b1_b2
  have A_b2 := OIn.set Ar12 Sz12 Hh12 Ww12
  refine own_st st12 ?_
  show OGo p e below s room_1 (OLawQ n0) (T12.setTop (mkF m 53 #[.val (.int q1), .val (.int q2), .val (.int q3), .unset, .unset, .unset] [(.ref b2)]))
  refine own_st (fun t k => XS.dup X12.here hx rfl (hb hby at_53) rfl rfl k) ?_
  show OGo p e below s room_1 (OLawQ n0) (T12.setTop (mkF m 54 #[.val (.int q1), .val (.int q2), .val (.int q3), .unset, .unset, .unset] [(.ref b2), (.ref b2)]))
  refine own_st (fun t k => XS.bipush X12.here hx rfl (hb hby at_54) k) ?_
  show OGo p e below s room_1 (OLawQ n0) (T12.setTop (mkF m 56 #[.val (.int q1), .val (.int q2), .val (.int q3), .unset, .unset, .unset] [(.int (9 : Int32)), (.ref b2), (.ref b2)]))
  refine own_st (fun t k => XS.sipush X12.here hx rfl (hb hby at_56) k) ?_
  show OGo p e below s room_1 (OLawQ n0) (T12.setTop (mkF m 59 #[.val (.int q1), .val (.int q2), .val (.int q3), .unset, .unset, .unset] [(.int (215 : Int32)), (.int (9 : Int32)), (.ref b2), (.ref b2)]))
  obtain ⟨cl13, Ar13, Sz13, Hh13⟩ := id A_b2
  obtain ⟨T13, hp13, X13, e13, Ww13, st13⟩ := stI X12 hx hZ e12 Ar13 (j := (9 : Int32)) (own_in Sz13 (by decide) (by decide)) (g := (mkF m 59 #[.val (.int q1), .val (.int q2), .val (.int q3), .unset, .unset, .unset] [(.int (215 : Int32)), (.int (9 : Int32)), (.ref b2), (.ref b2)])) rfl rfl (hb hby at_59)
  have Nf13 := Fr.snoc X13 Nf12 old_b2
  have Z0 := Nat.le_trans Z0 (Keep.of_wr Ww13).1
  have S_ASCII := S_ASCII.wr Ww13
  have A_b1 := A_b1.other Ww13 ne_b1_b2
  have A_b2 := OIn.set Ar13 Sz13 Hh13 Ww13
  refine own_st st13 ?_
  show OGo p e below s room_1 (OLawQ n0) (T13.setTop (mkF m 60 #[.val (.int q1), .val (.int q2), .val (.int q3), .unset, .unset, .unset] [(.ref b2)]))
  refine own_st (fun t k => XS.dup X13.here hx rfl (hb hby at_60) rfl rfl k) ?_
  show OGo p e below s room_1 (OLawQ n0) (T13.setTop (mkF m 61 #[.val (.int q1), .val (.int q2), .val (.int q3), .unset, .unset, .unset] [(.ref b2), (.ref b2)]))
  refine own_st (fun t k => XS.bipush X13.here hx rfl (hb hby at_61) k) ?_
  show OGo p e below s room_1 (OLawQ n0) (T13.setTop (mkF m 63 #[.val (.int q1), .val (.int q2), .val (.int q3), .unset, .unset, .unset] [(.int (10 : Int32)), (.ref b2), (.ref b2)]))
  refine own_st (fun t k => XS.sipush X13.here hx rfl (hb hby at_63) k) ?_
  show OGo p e below s room_1 (OLawQ n0) (T13.setTop (mkF m 66 #[.val (.int q1), .val (.int q2), .val (.int q3), .unset, .unset, .unset] [(.int (247 : Int32)), (.int (10 : Int32)), (.ref b2), (.ref b2)]))
  obtain ⟨cl14, Ar14, Sz14, Hh14⟩ := id A_b2
  obtain ⟨T14, hp14, X14, e14, Ww14, st14⟩ := stI X13 hx hZ e13 Ar14 (j := (10 : Int32)) (own_in Sz14 (by decide) (by decide)) (g := (mkF m 66 #[.val (.int q1), .val (.int q2), .val (.int q3), .unset, .unset, .unset] [(.int (247 : Int32)), (.int (10 : Int32)), (.ref b2), (.ref b2)])) rfl rfl (hb hby at_66)
  have Nf14 := Fr.snoc X14 Nf13 old_b2
  have Z0 := Nat.le_trans Z0 (Keep.of_wr Ww14).1
  have S_ASCII := S_ASCII.wr Ww14
  have A_b1 := A_b1.other Ww14 ne_b1_b2
  have A_b2 := OIn.set Ar14 Sz14 Hh14 Ww14
  refine own_st st14 ?_
  show OGo p e below s room_1 (OLawQ n0) (T14.setTop (mkF m 67 #[.val (.int q1), .val (.int q2), .val (.int q3), .unset, .unset, .unset] [(.ref b2)]))
  refine own_st (fun t k => XS.dup X14.here hx rfl (hb hby at_67) rfl rfl k) ?_
  show OGo p e below s room_1 (OLawQ n0) (T14.setTop (mkF m 68 #[.val (.int q1), .val (.int q2), .val (.int q3), .unset, .unset, .unset] [(.ref b2), (.ref b2)]))
  refine own_st (fun t k => XS.bipush X14.here hx rfl (hb hby at_68) k) ?_
  show OGo p e below s room_1 (OLawQ n0) (T14.setTop (mkF m 70 #[.val (.int q1), .val (.int q2), .val (.int q3), .unset, .unset, .unset] [(.int (11 : Int32)), (.ref b2), (.ref b2)]))
  refine own_st (fun t k => XS.sipush X14.here hx rfl (hb hby at_70) k) ?_
  show OGo p e below s room_1 (OLawQ n0) (T14.setTop (mkF m 73 #[.val (.int q1), .val (.int q2), .val (.int q3), .unset, .unset, .unset] [(.int (248 : Int32)), (.int (11 : Int32)), (.ref b2), (.ref b2)]))
  obtain ⟨cl15, Ar15, Sz15, Hh15⟩ := id A_b2
  obtain ⟨T15, hp15, X15, e15, Ww15, st15⟩ := stI X14 hx hZ e14 Ar15 (j := (11 : Int32)) (own_in Sz15 (by decide) (by decide)) (g := (mkF m 73 #[.val (.int q1), .val (.int q2), .val (.int q3), .unset, .unset, .unset] [(.int (248 : Int32)), (.int (11 : Int32)), (.ref b2), (.ref b2)])) rfl rfl (hb hby at_73)
  have Nf15 := Fr.snoc X15 Nf14 old_b2
  have Z0 := Nat.le_trans Z0 (Keep.of_wr Ww15).1
  have S_ASCII := S_ASCII.wr Ww15
  have A_b1 := A_b1.other Ww15 ne_b1_b2
  have A_b2 := OIn.set Ar15 Sz15 Hh15 Ww15
  refine own_st st15 ?_
  show OGo p e below s room_1 (OLawQ n0) (T15.setTop (mkF m 74 #[.val (.int q1), .val (.int q2), .val (.int q3), .unset, .unset, .unset] [(.ref b2)]))
  refine own_st (fun t k => XS.dup X15.here hx rfl (hb hby at_74) rfl rfl k) ?_
  show OGo p e below s room_1 (OLawQ n0) (T15.setTop (mkF m 75 #[.val (.int q1), .val (.int q2), .val (.int q3), .unset, .unset, .unset] [(.ref b2), (.ref b2)]))
  refine own_st (fun t k => XS.bipush X15.here hx rfl (hb hby at_75) k) ?_
  show OGo p e below s room_1 (OLawQ n0) (T15.setTop (mkF m 77 #[.val (.int q1), .val (.int q2), .val (.int q3), .unset, .unset, .unset] [(.int (12 : Int32)), (.ref b2), (.ref b2)]))
  refine own_st (fun t k => XS.sipush X15.here hx rfl (hb hby at_77) k) ?_
  show OGo p e below s room_1 (OLawQ n0) (T15.setTop (mkF m 80 #[.val (.int q1), .val (.int q2), .val (.int q3), .unset, .unset, .unset] [(.int (768 : Int32)), (.int (12 : Int32)), (.ref b2), (.ref b2)]))
  obtain ⟨cl16, Ar16, Sz16, Hh16⟩ := id A_b2
  obtain ⟨T16, hp16, X16, e16, Ww16, st16⟩ := stI X15 hx hZ e15 Ar16 (j := (12 : Int32)) (own_in Sz16 (by decide) (by decide)) (g := (mkF m 80 #[.val (.int q1), .val (.int q2), .val (.int q3), .unset, .unset, .unset] [(.int (768 : Int32)), (.int (12 : Int32)), (.ref b2), (.ref b2)])) rfl rfl (hb hby at_80)
  have Nf16 := Fr.snoc X16 Nf15 old_b2
  have Z0 := Nat.le_trans Z0 (Keep.of_wr Ww16).1
  have S_ASCII := S_ASCII.wr Ww16
  have A_b1 := A_b1.other Ww16 ne_b1_b2
  have A_b2 := OIn.set Ar16 Sz16 Hh16 Ww16
  refine own_st st16 ?_
  show OGo p e below s room_1 (OLawQ n0) (T16.setTop (mkF m 81 #[.val (.int q1), .val (.int q2), .val (.int q3), .unset, .unset, .unset] [(.ref b2)]))
  refine own_st (fun t k => XS.dup X16.here hx rfl (hb hby at_81) rfl rfl k) ?_
  show OGo p e below s room_1 (OLawQ n0) (T16.setTop (mkF m 82 #[.val (.int q1), .val (.int q2), .val (.int q3), .unset, .unset, .unset] [(.ref b2), (.ref b2)]))
  refine own_st (fun t k => XS.bipush X16.here hx rfl (hb hby at_82) k) ?_
  show OGo p e below s room_1 (OLawQ n0) (T16.setTop (mkF m 84 #[.val (.int q1), .val (.int q2), .val (.int q3), .unset, .unset, .unset] [(.int (13 : Int32)), (.ref b2), (.ref b2)]))
  refine own_st (fun t k => XS.sipush X16.here hx rfl (hb hby at_84) k) ?_
  show OGo p e below s room_1 (OLawQ n0) (T16.setTop (mkF m 87 #[.val (.int q1), .val (.int q2), .val (.int q3), .unset, .unset, .unset] [(.int (880 : Int32)), (.int (13 : Int32)), (.ref b2), (.ref b2)]))
  obtain ⟨cl17, Ar17, Sz17, Hh17⟩ := id A_b2
  obtain ⟨T17, hp17, X17, e17, Ww17, st17⟩ := stI X16 hx hZ e16 Ar17 (j := (13 : Int32)) (own_in Sz17 (by decide) (by decide)) (g := (mkF m 87 #[.val (.int q1), .val (.int q2), .val (.int q3), .unset, .unset, .unset] [(.int (880 : Int32)), (.int (13 : Int32)), (.ref b2), (.ref b2)])) rfl rfl (hb hby at_87)
  have Nf17 := Fr.snoc X17 Nf16 old_b2
  have Z0 := Nat.le_trans Z0 (Keep.of_wr Ww17).1
  have S_ASCII := S_ASCII.wr Ww17
  have A_b1 := A_b1.other Ww17 ne_b1_b2
  have A_b2 := OIn.set Ar17 Sz17 Hh17 Ww17
  refine own_st st17 ?_
  show OGo p e below s room_1 (OLawQ n0) (T17.setTop (mkF m 88 #[.val (.int q1), .val (.int q2), .val (.int q3), .unset, .unset, .unset] [(.ref b2)]))
  refine own_st (fun t k => XS.dup X17.here hx rfl (hb hby at_88) rfl rfl k) ?_
  show OGo p e below s room_1 (OLawQ n0) (T17.setTop (mkF m 89 #[.val (.int q1), .val (.int q2), .val (.int q3), .unset, .unset, .unset] [(.ref b2), (.ref b2)]))
  refine own_st (fun t k => XS.bipush X17.here hx rfl (hb hby at_89) k) ?_
  show OGo p e below s room_1 (OLawQ n0) (T17.setTop (mkF m 91 #[.val (.int q1), .val (.int q2), .val (.int q3), .unset, .unset, .unset] [(.int (14 : Int32)), (.ref b2), (.ref b2)]))
  refine own_st (fun t k => XS.sipush X17.here hx rfl (hb hby at_91) k) ?_
  show OGo p e below s room_1 (OLawQ n0) (T17.setTop (mkF m 94 #[.val (.int q1), .val (.int q2), .val (.int q3), .unset, .unset, .unset] [(.int (894 : Int32)), (.int (14 : Int32)), (.ref b2), (.ref b2)]))
  obtain ⟨cl18, Ar18, Sz18, Hh18⟩ := id A_b2
  obtain ⟨T18, hp18, X18, e18, Ww18, st18⟩ := stI X17 hx hZ e17 Ar18 (j := (14 : Int32)) (own_in Sz18 (by decide) (by decide)) (g := (mkF m 94 #[.val (.int q1), .val (.int q2), .val (.int q3), .unset, .unset, .unset] [(.int (894 : Int32)), (.int (14 : Int32)), (.ref b2), (.ref b2)])) rfl rfl (hb hby at_94)
  have Nf18 := Fr.snoc X18 Nf17 old_b2
  have Z0 := Nat.le_trans Z0 (Keep.of_wr Ww18).1
  have S_ASCII := S_ASCII.wr Ww18
  have A_b1 := A_b1.other Ww18 ne_b1_b2
  have A_b2 := OIn.set Ar18 Sz18 Hh18 Ww18
  refine own_st st18 ?_
  show OGo p e below s room_1 (OLawQ n0) (T18.setTop (mkF m 95 #[.val (.int q1), .val (.int q2), .val (.int q3), .unset, .unset, .unset] [(.ref b2)]))
  refine own_st (fun t k => XS.dup X18.here hx rfl (hb hby at_95) rfl rfl k) ?_
  show OGo p e below s room_1 (OLawQ n0) (T18.setTop (mkF m 96 #[.val (.int q1), .val (.int q2), .val (.int q3), .unset, .unset, .unset] [(.ref b2), (.ref b2)]))
  refine own_st (fun t k => XS.bipush X18.here hx rfl (hb hby at_96) k) ?_
  show OGo p e below s room_1 (OLawQ n0) (T18.setTop (mkF m 98 #[.val (.int q1), .val (.int q2), .val (.int q3), .unset, .unset, .unset] [(.int (15 : Int32)), (.ref b2), (.ref b2)]))
  refine own_st (fun t k => XS.sipush X18.here hx rfl (hb hby at_98) k) ?_
  show OGo p e below s room_1 (OLawQ n0) (T18.setTop (mkF m 101 #[.val (.int q1), .val (.int q2), .val (.int q3), .unset, .unset, .unset] [(.int (8192 : Int32)), (.int (15 : Int32)), (.ref b2), (.ref b2)]))
  obtain ⟨cl19, Ar19, Sz19, Hh19⟩ := id A_b2
  obtain ⟨T19, hp19, X19, e19, Ww19, st19⟩ := stI X18 hx hZ e18 Ar19 (j := (15 : Int32)) (own_in Sz19 (by decide) (by decide)) (g := (mkF m 101 #[.val (.int q1), .val (.int q2), .val (.int q3), .unset, .unset, .unset] [(.int (8192 : Int32)), (.int (15 : Int32)), (.ref b2), (.ref b2)])) rfl rfl (hb hby at_101)
  have Nf19 := Fr.snoc X19 Nf18 old_b2
  have Z0 := Nat.le_trans Z0 (Keep.of_wr Ww19).1
  have S_ASCII := S_ASCII.wr Ww19
  have A_b1 := A_b1.other Ww19 ne_b1_b2
  have A_b2 := OIn.set Ar19 Sz19 Hh19 Ww19
  refine own_st st19 ?_
  show OGo p e below s room_1 (OLawQ n0) (T19.setTop (mkF m 102 #[.val (.int q1), .val (.int q2), .val (.int q3), .unset, .unset, .unset] [(.ref b2)]))
  refine own_st (fun t k => XS.dup X19.here hx rfl (hb hby at_102) rfl rfl k) ?_
  show OGo p e below s room_1 (OLawQ n0) (T19.setTop (mkF m 103 #[.val (.int q1), .val (.int q2), .val (.int q3), .unset, .unset, .unset] [(.ref b2), (.ref b2)]))
  refine own_st (fun t k => XS.bipush X19.here hx rfl (hb hby at_103) k) ?_
  show OGo p e below s room_1 (OLawQ n0) (T19.setTop (mkF m 105 #[.val (.int q1), .val (.int q2), .val (.int q3), .unset, .unset, .unset] [(.int (16 : Int32)), (.ref b2), (.ref b2)]))
  refine own_st (fun t k => XS.sipush X19.here hx rfl (hb hby at_105) k) ?_
  show OGo p e below s room_1 (OLawQ n0) (T19.setTop (mkF m 108 #[.val (.int q1), .val (.int q2), .val (.int q3), .unset, .unset, .unset] [(.int (8204 : Int32)), (.int (16 : Int32)), (.ref b2), (.ref b2)]))
  obtain ⟨cl20, Ar20, Sz20, Hh20⟩ := id A_b2
  obtain ⟨T20, hp20, X20, e20, Ww20, st20⟩ := stI X19 hx hZ e19 Ar20 (j := (16 : Int32)) (own_in Sz20 (by decide) (by decide)) (g := (mkF m 108 #[.val (.int q1), .val (.int q2), .val (.int q3), .unset, .unset, .unset] [(.int (8204 : Int32)), (.int (16 : Int32)), (.ref b2), (.ref b2)])) rfl rfl (hb hby at_108)
  have Nf20 := Fr.snoc X20 Nf19 old_b2
  have Z0 := Nat.le_trans Z0 (Keep.of_wr Ww20).1
  have S_ASCII := S_ASCII.wr Ww20
  have A_b1 := A_b1.other Ww20 ne_b1_b2
  have A_b2 := OIn.set Ar20 Sz20 Hh20 Ww20
  refine own_st st20 ?_
  show OGo p e below s room_1 (OLawQ n0) (T20.setTop (mkF m 109 #[.val (.int q1), .val (.int q2), .val (.int q3), .unset, .unset, .unset] [(.ref b2)]))
  refine own_st (fun t k => XS.dup X20.here hx rfl (hb hby at_109) rfl rfl k) ?_
  show OGo p e below s room_1 (OLawQ n0) (T20.setTop (mkF m 110 #[.val (.int q1), .val (.int q2), .val (.int q3), .unset, .unset, .unset] [(.ref b2), (.ref b2)]))
  refine own_st (fun t k => XS.bipush X20.here hx rfl (hb hby at_110) k) ?_
  show OGo p e below s room_1 (OLawQ n0) (T20.setTop (mkF m 112 #[.val (.int q1), .val (.int q2), .val (.int q3), .unset, .unset, .unset] [(.int (17 : Int32)), (.ref b2), (.ref b2)]))
  refine own_st (fun t k => XS.sipush X20.here hx rfl (hb hby at_112) k) ?_
  show OGo p e below s room_1 (OLawQ n0) (T20.setTop (mkF m 115 #[.val (.int q1), .val (.int q2), .val (.int q3), .unset, .unset, .unset] [(.int (8304 : Int32)), (.int (17 : Int32)), (.ref b2), (.ref b2)]))
  obtain ⟨cl21, Ar21, Sz21, Hh21⟩ := id A_b2
  obtain ⟨T21, hp21, X21, e21, Ww21, st21⟩ := stI X20 hx hZ e20 Ar21 (j := (17 : Int32)) (own_in Sz21 (by decide) (by decide)) (g := (mkF m 115 #[.val (.int q1), .val (.int q2), .val (.int q3), .unset, .unset, .unset] [(.int (8304 : Int32)), (.int (17 : Int32)), (.ref b2), (.ref b2)])) rfl rfl (hb hby at_115)
  have Nf21 := Fr.snoc X21 Nf20 old_b2
  have Z0 := Nat.le_trans Z0 (Keep.of_wr Ww21).1
  have S_ASCII := S_ASCII.wr Ww21
  have A_b1 := A_b1.other Ww21 ne_b1_b2
  have A_b2 := OIn.set Ar21 Sz21 Hh21 Ww21
  refine own_st st21 ?_
  show OGo p e below s room_1 (OLawQ n0) (T21.setTop (mkF m 116 #[.val (.int q1), .val (.int q2), .val (.int q3), .unset, .unset, .unset] [(.ref b2)]))
  refine own_st (fun t k => XS.dup X21.here hx rfl (hb hby at_116) rfl rfl k) ?_
  show OGo p e below s room_1 (OLawQ n0) (T21.setTop (mkF m 117 #[.val (.int q1), .val (.int q2), .val (.int q3), .unset, .unset, .unset] [(.ref b2), (.ref b2)]))
  refine own_st (fun t k => XS.bipush X21.here hx rfl (hb hby at_117) k) ?_
  show OGo p e below s room_1 (OLawQ n0) (T21.setTop (mkF m 119 #[.val (.int q1), .val (.int q2), .val (.int q3), .unset, .unset, .unset] [(.int (18 : Int32)), (.ref b2), (.ref b2)]))
  refine own_st (fun t k => XS.sipush X21.here hx rfl (hb hby at_119) k) ?_
  show OGo p e below s room_1 (OLawQ n0) (T21.setTop (mkF m 122 #[.val (.int q1), .val (.int q2), .val (.int q3), .unset, .unset, .unset] [(.int (8592 : Int32)), (.int (18 : Int32)), (.ref b2), (.ref b2)]))
  obtain ⟨cl22, Ar22, Sz22, Hh22⟩ := id A_b2
  obtain ⟨T22, hp22, X22, e22, Ww22, st22⟩ := stI X21 hx hZ e21 Ar22 (j := (18 : Int32)) (own_in Sz22 (by decide) (by decide)) (g := (mkF m 122 #[.val (.int q1), .val (.int q2), .val (.int q3), .unset, .unset, .unset] [(.int (8592 : Int32)), (.int (18 : Int32)), (.ref b2), (.ref b2)])) rfl rfl (hb hby at_122)
  have Nf22 := Fr.snoc X22 Nf21 old_b2
  have Z0 := Nat.le_trans Z0 (Keep.of_wr Ww22).1
  have S_ASCII := S_ASCII.wr Ww22
  have A_b1 := A_b1.other Ww22 ne_b1_b2
  have A_b2 := OIn.set Ar22 Sz22 Hh22 Ww22
  refine own_st st22 ?_
  show OGo p e below s room_1 (OLawQ n0) (T22.setTop (mkF m 123 #[.val (.int q1), .val (.int q2), .val (.int q3), .unset, .unset, .unset] [(.ref b2)]))
  refine own_st (fun t k => XS.dup X22.here hx rfl (hb hby at_123) rfl rfl k) ?_
  show OGo p e below s room_1 (OLawQ n0) (T22.setTop (mkF m 124 #[.val (.int q1), .val (.int q2), .val (.int q3), .unset, .unset, .unset] [(.ref b2), (.ref b2)]))
  refine own_st (fun t k => XS.bipush X22.here hx rfl (hb hby at_124) k) ?_
  show OGo p e below s room_1 (OLawQ n0) (T22.setTop (mkF m 126 #[.val (.int q1), .val (.int q2), .val (.int q3), .unset, .unset, .unset] [(.int (19 : Int32)), (.ref b2), (.ref b2)]))
  refine own_st (fun t k => XS.sipush X22.here hx rfl (hb hby at_126) k) ?_
  show OGo p e below s room_1 (OLawQ n0) (T22.setTop (mkF m 129 #[.val (.int q1), .val (.int q2), .val (.int q3), .unset, .unset, .unset] [(.int (11264 : Int32)), (.int (19 : Int32)), (.ref b2), (.ref b2)]))
  obtain ⟨cl23, Ar23, Sz23, Hh23⟩ := id A_b2
  obtain ⟨T23, hp23, X23, e23, Ww23, st23⟩ := stI X22 hx hZ e22 Ar23 (j := (19 : Int32)) (own_in Sz23 (by decide) (by decide)) (g := (mkF m 129 #[.val (.int q1), .val (.int q2), .val (.int q3), .unset, .unset, .unset] [(.int (11264 : Int32)), (.int (19 : Int32)), (.ref b2), (.ref b2)])) rfl rfl (hb hby at_129)
  have Nf23 := Fr.snoc X23 Nf22 old_b2
  have Z0 := Nat.le_trans Z0 (Keep.of_wr Ww23).1
  have S_ASCII := S_ASCII.wr Ww23
  have A_b1 := A_b1.other Ww23 ne_b1_b2
  have A_b2 := OIn.set Ar23 Sz23 Hh23 Ww23
  refine own_st st23 ?_
  show OGo p e below s room_1 (OLawQ n0) (T23.setTop (mkF m 130 #[.val (.int q1), .val (.int q2), .val (.int q3), .unset, .unset, .unset] [(.ref b2)]))
  refine own_st (fun t k => XS.dup X23.here hx rfl (hb hby at_130) rfl rfl k) ?_
  show OGo p e below s room_1 (OLawQ n0) (T23.setTop (mkF m 131 #[.val (.int q1), .val (.int q2), .val (.int q3), .unset, .unset, .unset] [(.ref b2), (.ref b2)]))
  refine own_st (fun t k => XS.bipush X23.here hx rfl (hb hby at_131) k) ?_
  show OGo p e below s room_1 (OLawQ n0) (T23.setTop (mkF m 133 #[.val (.int q1), .val (.int q2), .val (.int q3), .unset, .unset, .unset] [(.int (20 : Int32)), (.ref b2), (.ref b2)]))
  refine own_st (fun t k => XS.sipush X23.here hx rfl (hb hby at_133) k) ?_
  show OGo p e below s room_1 (OLawQ n0) (T23.setTop (mkF m 136 #[.val (.int q1), .val (.int q2), .val (.int q3), .unset, .unset, .unset] [(.int (12272 : Int32)), (.int (20 : Int32)), (.ref b2), (.ref b2)]))
  obtain ⟨cl24, Ar24, Sz24, Hh24⟩ := id A_b2
  obtain ⟨T24, hp24, X24, e24, Ww24, st24⟩ := stI X23 hx hZ e23 Ar24 (j := (20 : Int32)) (own_in Sz24 (by decide) (by decide)) (g := (mkF m 136 #[.val (.int q1), .val (.int q2), .val (.int q3), .unset, .unset, .unset] [(.int (12272 : Int32)), (.int (20 : Int32)), (.ref b2), (.ref b2)])) rfl rfl (hb hby at_136)
  have Nf24 := Fr.snoc X24 Nf23 old_b2
  have Z0 := Nat.le_trans Z0 (Keep.of_wr Ww24).1
  have S_ASCII := S_ASCII.wr Ww24
  have A_b1 := A_b1.other Ww24 ne_b1_b2
  have A_b2 := OIn.set Ar24 Sz24 Hh24 Ww24
  refine own_st st24 ?_
  show OGo p e below s room_1 (OLawQ n0) (T24.setTop (mkF m 137 #[.val (.int q1), .val (.int q2), .val (.int q3), .unset, .unset, .unset] [(.ref b2)]))
  refine own_st (fun t k => XS.dup X24.here hx rfl (hb hby at_137) rfl rfl k) ?_
  show OGo p e below s room_1 (OLawQ n0) (T24.setTop (mkF m 138 #[.val (.int q1), .val (.int q2), .val (.int q3), .unset, .unset, .unset] [(.ref b2), (.ref b2)]))
  refine own_st (fun t k => XS.bipush X24.here hx rfl (hb hby at_138) k) ?_
  show OGo p e below s room_1 (OLawQ n0) (T24.setTop (mkF m 140 #[.val (.int q1), .val (.int q2), .val (.int q3), .unset, .unset, .unset] [(.int (21 : Int32)), (.ref b2), (.ref b2)]))
  refine own_st (fun t k => XS.sipush X24.here hx rfl (hb hby at_140) k) ?_
  show OGo p e below s room_1 (OLawQ n0) (T24.setTop (mkF m 143 #[.val (.int q1), .val (.int q2), .val (.int q3), .unset, .unset, .unset] [(.int (12289 : Int32)), (.int (21 : Int32)), (.ref b2), (.ref b2)]))
  obtain ⟨cl25, Ar25, Sz25, Hh25⟩ := id A_b2
  obtain ⟨T25, hp25, X25, e25, Ww25, st25⟩ := stI X24 hx hZ e24 Ar25 (j := (21 : Int32)) (own_in Sz25 (by decide) (by decide)) (g := (mkF m 143 #[.val (.int q1), .val (.int q2), .val (.int q3), .unset, .unset, .unset] [(.int (12289 : Int32)), (.int (21 : Int32)), (.ref b2), (.ref b2)])) rfl rfl (hb hby at_143)
  have Nf25 := Fr.snoc X25 Nf24 old_b2
  have Z0 := Nat.le_trans Z0 (Keep.of_wr Ww25).1
  have S_ASCII := S_ASCII.wr Ww25
  have A_b1 := A_b1.other Ww25 ne_b1_b2
  have A_b2 := OIn.set Ar25 Sz25 Hh25 Ww25
  refine own_st st25 ?_
  show OGo p e below s room_1 (OLawQ n0) (T25.setTop (mkF m 144 #[.val (.int q1), .val (.int q2), .val (.int q3), .unset, .unset, .unset] [(.ref b2)]))
  refine own_st (fun t k => XS.dup X25.here hx rfl (hb hby at_144) rfl rfl k) ?_
  show OGo p e below s room_1 (OLawQ n0) (T25.setTop (mkF m 145 #[.val (.int q1), .val (.int q2), .val (.int q3), .unset, .unset, .unset] [(.ref b2), (.ref b2)]))
  refine own_st (fun t k => XS.bipush X25.here hx rfl (hb hby at_145) k) ?_
  show OGo p e below s room_1 (OLawQ n0) (T25.setTop (mkF m 147 #[.val (.int q1), .val (.int q2), .val (.int q3), .unset, .unset, .unset] [(.int (22 : Int32)), (.ref b2), (.ref b2)]))
  refine own_st (X25.ldcInt hx hown (mvT hZ (hw _ (List.mem_of_getElem? (i := 1) rfl))) (g := (mkF m 147 #[.val (.int q1), .val (.int q2), .val (.int q3), .unset, .unset, .unset] [(.int (22 : Int32)), (.ref b2), (.ref b2)])) rfl (hb hby at_147)) ?_
  show OGo p e below s room_1 (OLawQ n0) (T25.setTop (mkF m 149 #[.val (.int q1), .val (.int q2), .val (.int q3), .unset, .unset, .unset] [(.int (55296 : Int32)), (.int (22 : Int32)), (.ref b2), (.ref b2)]))
  obtain ⟨cl26, Ar26, Sz26, Hh26⟩ := id A_b2
  obtain ⟨T26, hp26, X26, e26, Ww26, st26⟩ := stI X25 hx hZ e25 Ar26 (j := (22 : Int32)) (own_in Sz26 (by decide) (by decide)) (g := (mkF m 149 #[.val (.int q1), .val (.int q2), .val (.int q3), .unset, .unset, .unset] [(.int (55296 : Int32)), (.int (22 : Int32)), (.ref b2), (.ref b2)])) rfl rfl (hb hby at_149)
  have Nf26 := Fr.snoc X26 Nf25 old_b2
  have Z0 := Nat.le_trans Z0 (Keep.of_wr Ww26).1
  have S_ASCII := S_ASCII.wr Ww26
  have A_b1 := A_b1.other Ww26 ne_b1_b2
  have A_b2 := OIn.set Ar26 Sz26 Hh26 Ww26
  refine own_st st26 ?_
  show OGo p e below s room_1 (OLawQ n0) (T26.setTop (mkF m 150 #[.val (.int q1), .val (.int q2), .val (.int q3), .unset, .unset, .unset] [(.ref b2)]))
  refine own_st (fun t k => XS.dup X26.here hx rfl (hb hby at_150) rfl rfl k) ?_
  show OGo p e below s room_1 (OLawQ n0) (T26.setTop (mkF m 151 #[.val (.int q1), .val (.int q2), .val (.int q3), .unset, .unset, .unset] [(.ref b2), (.ref b2)]))
  refine own_st (fun t k => XS.bipush X26.here hx rfl (hb hby at_151) k) ?_
  show OGo p e below s room_1 (OLawQ n0) (T26.setTop (mkF m 153 #[.val (.int q1), .val (.int q2), .val (.int q3), .unset, .unset, .unset] [(.int (23 : Int32)), (.ref b2), (.ref b2)]))
  refine own_st (X26.ldcInt hx hown (mvT hZ (hw _ (List.mem_of_getElem? (i := 2) rfl))) (g := (mkF m 153 #[.val (.int q1), .val (.int q2), .val (.int q3), .unset, .unset, .unset] [(.int (23 : Int32)), (.ref b2), (.ref b2)])) rfl (hb hby at_153)) ?_
  show OGo p e below s room_1 (OLawQ n0) (T26.setTop (mkF m 155 #[.val (.int q1), .val (.int q2), .val (.int q3), .unset, .unset, .unset] [(.int (63744 : Int32)), (.int (23 : Int32)), (.ref b2), (.ref b2)]))
  obtain ⟨cl27, Ar27, Sz27, Hh27⟩ := id A_b2
  obtain ⟨T27, hp27, X27, e27, Ww27, st27⟩ := stI X26 hx hZ e26 Ar27 (j := (23 : Int32)) (own_in Sz27 (by decide) (by decide)) (g := (mkF m 155 #[.val (.int q1), .val (.int q2), .val (.int q3), .unset, .unset, .unset] [(.int (63744 : Int32)), (.int (23 : Int32)), (.ref b2), (.ref b2)])) rfl rfl (hb hby at_155)
  have Nf27 := Fr.snoc X27 Nf26 old_b2
  have Z0 := Nat.le_trans Z0 (Keep.of_wr Ww27).1
  have S_ASCII := S_ASCII.wr Ww27
  have A_b1 := A_b1.other Ww27 ne_b1_b2
  have A_b2 := OIn.set Ar27 Sz27 Hh27 Ww27
  refine own_st st27 ?_
  show OGo p e below s room_1 (OLawQ n0) (T27.setTop (mkF m 156 #[.val (.int q1), .val (.int q2), .val (.int q3), .unset, .unset, .unset] [(.ref b2)]))
  refine own_st (fun t k => XS.dup X27.here hx rfl (hb hby at_156) rfl rfl k) ?_
  show OGo p e below s room_1 (OLawQ n0) (T27.setTop (mkF m 157 #[.val (.int q1), .val (.int q2), .val (.int q3), .unset, .unset, .unset] [(.ref b2), (.ref b2)]))
  refine own_st (fun t k => XS.bipush X27.here hx rfl (hb hby at_157) k) ?_
  show OGo p e below s room_1 (OLawQ n0) (T27.setTop (mkF m 159 #[.val (.int q1), .val (.int q2), .val (.int q3), .unset, .unset, .unset] [(.int (24 : Int32)), (.ref b2), (.ref b2)]))
  refine own_st (X27.ldcInt hx hown (mvT hZ (hw _ (List.mem_of_getElem? (i := 3) rfl))) (g := (mkF m 159 #[.val (.int q1), .val (.int q2), .val (.int q3), .unset, .unset, .unset] [(.int (24 : Int32)), (.ref b2), (.ref b2)])) rfl (hb hby at_159)) ?_
  show OGo p e below s room_1 (OLawQ n0) (T27.setTop (mkF m 161 #[.val (.int q1), .val (.int q2), .val (.int q3), .unset, .unset, .unset] [(.int (64976 : Int32)), (.int (24 : Int32)), (.ref b2), (.ref b2)]))
  obtain ⟨cl28, Ar28, Sz28, Hh28⟩ := id A_b2
  obtain ⟨T28, hp28, X28, e28, Ww28, st28⟩ := stI X27 hx hZ e27 Ar28 (j := (24 : Int32)) (own_in Sz28 (by decide) (by decide)) (g := (mkF m 161 #[.val (.int q1), .val (.int q2), .val (.int q3), .unset, .unset, .unset] [(.int (64976 : Int32)), (.int (24 : Int32)), (.ref b2), (.ref b2)])) rfl rfl (hb hby at_161)
  have Nf28 := Fr.snoc X28 Nf27 old_b2
  have Z0 := Nat.le_trans Z0 (Keep.of_wr Ww28).1
  have S_ASCII := S_ASCII.wr Ww28
  have A_b1 := A_b1.other Ww28 ne_b1_b2
  have A_b2 := OIn.set Ar28 Sz28 Hh28 Ww28
  refine own_st st28 ?_
  show OGo p e below s room_1 (OLawQ n0) (T28.setTop (mkF m 162 #[.val (.int q1), .val (.int q2), .val (.int q3), .unset, .unset, .unset] [(.ref b2)]))
  refine own_st (fun t k => XS.dup X28.here hx rfl (hb hby at_162) rfl rfl k) ?_
  show OGo p e below s room_1 (OLawQ n0) (T28.setTop (mkF m 163 #[.val (.int q1), .val (.int q2), .val (.int q3), .unset, .unset, .unset] [(.ref b2), (.ref b2)]))
  refine own_st (fun t k => XS.bipush X28.here hx rfl (hb hby at_163) k) ?_
  show OGo p e below s room_1 (OLawQ n0) (T28.setTop (mkF m 165 #[.val (.int q1), .val (.int q2), .val (.int q3), .unset, .unset, .unset] [(.int (25 : Int32)), (.ref b2), (.ref b2)]))
  refine own_st (X28.ldcInt hx hown (mvT hZ (hw _ (List.mem_of_getElem? (i := 4) rfl))) (g := (mkF m 165 #[.val (.int q1), .val (.int q2), .val (.int q3), .unset, .unset, .unset] [(.int (25 : Int32)), (.ref b2), (.ref b2)])) rfl (hb hby at_165)) ?_
  show OGo p e below s room_1 (OLawQ n0) (T28.setTop (mkF m 167 #[.val (.int q1), .val (.int q2), .val (.int q3), .unset, .unset, .unset] [(.int (65008 : Int32)), (.int (25 : Int32)), (.ref b2), (.ref b2)]))
  obtain ⟨cl29, Ar29, Sz29, Hh29⟩ := id A_b2
  obtain ⟨T29, hp29, X29, e29, Ww29, st29⟩ := stI X28 hx hZ e28 Ar29 (j := (25 : Int32)) (own_in Sz29 (by decide) (by decide)) (g := (mkF m 167 #[.val (.int q1), .val (.int q2), .val (.int q3), .unset, .unset, .unset] [(.int (65008 : Int32)), (.int (25 : Int32)), (.ref b2), (.ref b2)])) rfl rfl (hb hby at_167)
  have Nf29 := Fr.snoc X29 Nf28 old_b2
  have Z0 := Nat.le_trans Z0 (Keep.of_wr Ww29).1
  have S_ASCII := S_ASCII.wr Ww29
  have A_b1 := A_b1.other Ww29 ne_b1_b2
  have A_b2 := OIn.set Ar29 Sz29 Hh29 Ww29
  refine own_st st29 ?_
  show OGo p e below s room_1 (OLawQ n0) (T29.setTop (mkF m 168 #[.val (.int q1), .val (.int q2), .val (.int q3), .unset, .unset, .unset] [(.ref b2)]))
  refine own_st (fun t k => XS.dup X29.here hx rfl (hb hby at_168) rfl rfl k) ?_
  show OGo p e below s room_1 (OLawQ n0) (T29.setTop (mkF m 169 #[.val (.int q1), .val (.int q2), .val (.int q3), .unset, .unset, .unset] [(.ref b2), (.ref b2)]))
  refine own_st (fun t k => XS.bipush X29.here hx rfl (hb hby at_169) k) ?_
  show OGo p e below s room_1 (OLawQ n0) (T29.setTop (mkF m 171 #[.val (.int q1), .val (.int q2), .val (.int q3), .unset, .unset, .unset] [(.int (26 : Int32)), (.ref b2), (.ref b2)]))
  refine own_st (X29.ldcInt hx hown (mvT hZ (hw _ (List.mem_of_getElem? (i := 5) rfl))) (g := (mkF m 171 #[.val (.int q1), .val (.int q2), .val (.int q3), .unset, .unset, .unset] [(.int (26 : Int32)), (.ref b2), (.ref b2)])) rfl (hb hby at_171)) ?_
  show OGo p e below s room_1 (OLawQ n0) (T29.setTop (mkF m 173 #[.val (.int q1), .val (.int q2), .val (.int q3), .unset, .unset, .unset] [(.int (65534 : Int32)), (.int (26 : Int32)), (.ref b2), (.ref b2)]))
  obtain ⟨cl30, Ar30, Sz30, Hh30⟩ := id A_b2
  obtain ⟨T30, hp30, X30, e30, Ww30, st30⟩ := stI X29 hx hZ e29 Ar30 (j := (26 : Int32)) (own_in Sz30 (by decide) (by decide)) (g := (mkF m 173 #[.val (.int q1), .val (.int q2), .val (.int q3), .unset, .unset, .unset] [(.int (65534 : Int32)), (.int (26 : Int32)), (.ref b2), (.ref b2)])) rfl rfl (hb hby at_173)
  have Nf30 := Fr.snoc X30 Nf29 old_b2
  have Z0 := Nat.le_trans Z0 (Keep.of_wr Ww30).1
  have S_ASCII := S_ASCII.wr Ww30
  have A_b1 := A_b1.other Ww30 ne_b1_b2
  have A_b2 := OIn.set Ar30 Sz30 Hh30 Ww30
  refine own_st st30 ?_
  show OGo p e below s room_1 (OLawQ n0) (T30.setTop (mkF m 174 #[.val (.int q1), .val (.int q2), .val (.int q3), .unset, .unset, .unset] [(.ref b2)]))
  refine own_st (fun t k => XS.dup X30.here hx rfl (hb hby at_174) rfl rfl k) ?_
  show OGo p e below s room_1 (OLawQ n0) (T30.setTop (mkF m 175 #[.val (.int q1), .val (.int q2), .val (.int q3), .unset, .unset, .unset] [(.ref b2), (.ref b2)]))
  refine own_st (fun t k => XS.bipush X30.here hx rfl (hb hby at_175) k) ?_
  show OGo p e below s room_1 (OLawQ n0) (T30.setTop (mkF m 177 #[.val (.int q1), .val (.int q2), .val (.int q3), .unset, .unset, .unset] [(.int (27 : Int32)), (.ref b2), (.ref b2)]))
  refine own_st (X30.ldcInt hx hown (mvT hZ (hw _ (List.mem_of_getElem? (i := 6) rfl))) (g := (mkF m 177 #[.val (.int q1), .val (.int q2), .val (.int q3), .unset, .unset, .unset] [(.int (27 : Int32)), (.ref b2), (.ref b2)])) rfl (hb hby at_177)) ?_
  show OGo p e below s room_1 (OLawQ n0) (T30.setTop (mkF m 179 #[.val (.int q1), .val (.int q2), .val (.int q3), .unset, .unset, .unset] [(.int (65536 : Int32)), (.int (27 : Int32)), (.ref b2), (.ref b2)]))
  obtain ⟨cl31, Ar31, Sz31, Hh31⟩ := id A_b2
  obtain ⟨T31, hp31, X31, e31, Ww31, st31⟩ := stI X30 hx hZ e30 Ar31 (j := (27 : Int32)) (own_in Sz31 (by decide) (by decide)) (g := (mkF m 179 #[.val (.int q1), .val (.int q2), .val (.int q3), .unset, .unset, .unset] [(.int (65536 : Int32)), (.int (27 : Int32)), (.ref b2), (.ref b2)])) rfl rfl (hb hby at_179)
  have Nf31 := Fr.snoc X31 Nf30 old_b2
  have Z0 := Nat.le_trans Z0 (Keep.of_wr Ww31).1
  have S_ASCII := S_ASCII.wr Ww31
  have A_b1 := A_b1.other Ww31 ne_b1_b2
  have A_b2 := OIn.set Ar31 Sz31 Hh31 Ww31
  refine own_st st31 ?_
  show OGo p e below s room_1 (OLawQ n0) (T31.setTop (mkF m 180 #[.val (.int q1), .val (.int q2), .val (.int q3), .unset, .unset, .unset] [(.ref b2)]))
  refine own_st (fun t k => XS.dup X31.here hx rfl (hb hby at_180) rfl rfl k) ?_
  show OGo p e below s room_1 (OLawQ n0) (T31.setTop (mkF m 181 #[.val (.int q1), .val (.int q2), .val (.int q3), .unset, .unset, .unset] [(.ref b2), (.ref b2)]))
  refine own_st (fun t k => XS.bipush X31.here hx rfl (hb hby at_181) k) ?_
  show OGo p e below s room_1 (OLawQ n0) (T31.setTop (mkF m 183 #[.val (.int q1), .val (.int q2), .val (.int q3), .unset, .unset, .unset] [(.int (28 : Int32)), (.ref b2), (.ref b2)]))
  refine own_st (X31.ldcInt hx hown (mvT hZ (hw _ (List.mem_of_getElem? (i := 7) rfl))) (g := (mkF m 183 #[.val (.int q1), .val (.int q2), .val (.int q3), .unset, .unset, .unset] [(.int (28 : Int32)), (.ref b2), (.ref b2)])) rfl (hb hby at_183)) ?_
  show OGo p e below s room_1 (OLawQ n0) (T31.setTop (mkF m 185 #[.val (.int q1), .val (.int q2), .val (.int q3), .unset, .unset, .unset] [(.int (983040 : Int32)), (.int (28 : Int32)), (.ref b2), (.ref b2)]))
  obtain ⟨cl32, Ar32, Sz32, Hh32⟩ := id A_b2
  obtain ⟨T32, hp32, X32, e32, Ww32, st32⟩ := stI X31 hx hZ e31 Ar32 (j := (28 : Int32)) (own_in Sz32 (by decide) (by decide)) (g := (mkF m 185 #[.val (.int q1), .val (.int q2), .val (.int q3), .unset, .unset, .unset] [(.int (983040 : Int32)), (.int (28 : Int32)), (.ref b2), (.ref b2)])) rfl rfl (hb hby at_185)
  have Nf32 := Fr.snoc X32 Nf31 old_b2
  have Z0 := Nat.le_trans Z0 (Keep.of_wr Ww32).1
  have S_ASCII := S_ASCII.wr Ww32
  have A_b1 := A_b1.other Ww32 ne_b1_b2
  have A_b2 := OIn.set Ar32 Sz32 Hh32 Ww32
  refine own_st st32 ?_
  show OGo p e below s room_1 (OLawQ n0) (T32.setTop (mkF m 186 #[.val (.int q1), .val (.int q2), .val (.int q3), .unset, .unset, .unset] [(.ref b2)]))
  refine own_st (fun t k => XS.dup X32.here hx rfl (hb hby at_186) rfl rfl k) ?_
  show OGo p e below s room_1 (OLawQ n0) (T32.setTop (mkF m 187 #[.val (.int q1), .val (.int q2), .val (.int q3), .unset, .unset, .unset] [(.ref b2), (.ref b2)]))
  refine own_st (fun t k => XS.bipush X32.here hx rfl (hb hby at_187) k) ?_
  show OGo p e below s room_1 (OLawQ n0) (T32.setTop (mkF m 189 #[.val (.int q1), .val (.int q2), .val (.int q3), .unset, .unset, .unset] [(.int (29 : Int32)), (.ref b2), (.ref b2)]))
  refine own_st (X32.ldcInt hx hown (mvT hZ (hw _ (List.mem_of_getElem? (i := 8) rfl))) (g := (mkF m 189 #[.val (.int q1), .val (.int q2), .val (.int q3), .unset, .unset, .unset] [(.int (29 : Int32)), (.ref b2), (.ref b2)])) rfl (hb hby at_189)) ?_
  show OGo p e below s room_1 (OLawQ n0) (T32.setTop (mkF m 191 #[.val (.int q1), .val (.int q2), .val (.int q3), .unset, .unset, .unset] [(.int (1114111 : Int32)), (.int (29 : Int32)), (.ref b2), (.ref b2)]))
  obtain ⟨cl33, Ar33, Sz33, Hh33⟩ := id A_b2
  obtain ⟨T33, hp33, X33, e33, Ww33, st33⟩ := stI X32 hx hZ e32 Ar33 (j := (29 : Int32)) (own_in Sz33 (by decide) (by decide)) (g := (mkF m 191 #[.val (.int q1), .val (.int q2), .val (.int q3), .unset, .unset, .unset] [(.int (1114111 : Int32)), (.int (29 : Int32)), (.ref b2), (.ref b2)])) rfl rfl (hb hby at_191)
  have Nf33 := Fr.snoc X33 Nf32 old_b2
  have Z0 := Nat.le_trans Z0 (Keep.of_wr Ww33).1
  have S_ASCII := S_ASCII.wr Ww33
  have A_b1 := A_b1.other Ww33 ne_b1_b2
  have A_b2 := OIn.set Ar33 Sz33 Hh33 Ww33
  refine own_st st33 ?_
  show OGo p e below s room_1 (OLawQ n0) (T33.setTop (mkF m 192 #[.val (.int q1), .val (.int q2), .val (.int q3), .unset, .unset, .unset] [(.ref b2)]))
  refine own_st (fun t k => XS.astoreN X33.here hx rfl (hb hby at_192) rfl rfl (l' := #[.val (.int q1), .val (.int q2), .val (.int q3), .val (.ref b2), .unset, .unset]) rfl k) ?_
  show OGo p e below s room_1 (OLawQ n0) (T33.setTop (mkF m 193 #[.val (.int q1), .val (.int q2), .val (.int q3), .val (.ref b2), .unset, .unset] []))
  obtain ⟨LX, XX, NX⟩ : ∃ LX, Stand p l e room_1 s m #[(.int q1), (.int q2), (.int q3)] below meth c T33 LX 1 30 ∧ Fr n0 LX := ⟨_, X33, Nf33⟩
  have J244 : ∀ (TJ : State) (c0 : Int32) (s5 : Slot), Stand p l e room_1 s m #[(.int q1), (.int q2), (.int q3)] below meth c TJ LX 1 30 → TJ.heap = hp33 → 0 ≤ c0.toInt → c0.toInt ≤ 1114111 → OGo p e below s room_1 (OLawQ n0) (TJ.setTop (mkF m 244 #[.val (.int q1), .val (.int q2), .val (.int q3), .val (.ref b2), .val (.int c0), s5] [])) := by
    intro TJ c0 s5 XJ eJ hl hu
    show OGo p e below s room_1 (OLawQ n0) (TJ.setTop (mkF m 244 #[.val (.int q1), .val (.int q2), .val (.int q3), .val (.ref b2), .val (.int c0), s5] []))
    refine own_st (fun t k => XS.iload XJ.here hx rfl (hb hby at_244) rfl k) ?_
    show OGo p e below s room_1 (OLawQ n0) (TJ.setTop (mkF m 246 #[.val (.int q1), .val (.int q2), .val (.int q3), .val (.ref b2), .val (.int c0), s5] [(.int c0)]))
    obtain ⟨T34, X34, e34, st34⟩ := own_callSP XJ hx hZ (y := (⟨"com/example/cartulary/cartulary/XmlNames", "isNameStart", "(I)Z"⟩ : MethodName)) (W := 0) hown (hw _ (List.mem_of_getElem? (i := 16) rfl)) (hw _ (List.mem_of_getElem? (i := 17) rfl)) (hw _ (List.mem_of_getElem? (i := 18) rfl)) (hw _ (List.mem_of_getElem? (i := 19) rfl)) (by decide) (rm3 l Z a0 hw c0 b1 (nb4_0 c0) hp33 S_ASCII A_b1 (own_nn _ hl) (own_128 _ hl) (own_same _ hl hu).symm) (by decide) (by decide) (g := (mkF m 246 #[.val (.int q1), .val (.int q2), .val (.int q3), .val (.ref b2), .val (.int c0), s5] [(.int c0)])) rfl (by rw [hml]; rfl) (argsL := [(.int c0)]) (rest := []) (lenOf pd_0 rfl) rfl (by show 2 * 0 + _ ≤ _; exact Nat.le_of_eq rfl) (hb hby at_246) rfl eJ (by decide) (by decide)
    refine own_st st34 ?_
    show OGo p e below s room_1 (OLawQ n0) (T34.setTop (mkF m 249 #[.val (.int q1), .val (.int q2), .val (.int q3), .val (.ref b2), .val (.int c0), s5] [(.int (nb4_0 c0))]))
    refine own_st (fun t k => XS.iload X34.here hx rfl (hb hby at_249) rfl k) ?_
    show OGo p e below s room_1 (OLawQ n0) (T34.setTop (mkF m 251 #[.val (.int q1), .val (.int q2), .val (.int q3), .val (.ref b2), .val (.int c0), s5] [(.int c0), (.int (nb4_0 c0))]))
    obtain ⟨T35, X35, e35, st35⟩ := own_callSP X34 hx hZ (y := (⟨"com/example/cartulary/cartulary/XmlNamesIsNameStartPinLaw", "reference", "(I)Z"⟩ : MethodName)) (W := 1) hown (hw _ (List.mem_of_getElem? (i := 22) rfl)) (hw _ (List.mem_of_getElem? (i := 23) rfl)) (hw _ (List.mem_of_getElem? (i := 24) rfl)) (hw _ (List.mem_of_getElem? (i := 25) rfl)) (by decide) (rm4 l Z a0 hw c0 (nb4_0 c0) hp33 rfl) (by decide) (by decide) (g := (mkF m 251 #[.val (.int q1), .val (.int q2), .val (.int q3), .val (.ref b2), .val (.int c0), s5] [(.int c0), (.int (nb4_0 c0))])) rfl (by rw [hml]; rfl) (argsL := [(.int c0)]) (rest := [(.int (nb4_0 c0))]) (lenOf pd_0 rfl) rfl (by show 2 * 0 + _ ≤ _; exact Nat.le_of_eq rfl) (hb hby at_251) rfl e34 (by decide) (by decide)
    refine own_st st35 ?_
    show OGo p e below s room_1 (OLawQ n0) (T35.setTop (mkF m 254 #[.val (.int q1), .val (.int q2), .val (.int q3), .val (.ref b2), .val (.int c0), s5] [(.int (nb4_0 c0)), (.int (nb4_0 c0))]))
    refine own_st (fun t k => XS.icmpNo X35.here hx rfl (hb hby at_254) rfl (teq (rfl)).2 k) ?_
    show OGo p e below s room_1 (OLawQ n0) (T35.setTop (mkF m 257 #[.val (.int q1), .val (.int q2), .val (.int q3), .val (.ref b2), .val (.int c0), s5] []))
    refine own_st (fun t k => XS.iconst X35.here hx rfl (hb hby at_257) k) ?_
    show OGo p e below s room_1 (OLawQ n0) (T35.setTop (mkF m 258 #[.val (.int q1), .val (.int q2), .val (.int q3), .val (.ref b2), .val (.int c0), s5] [(.int (1 : Int32))]))
    refine own_st (fun t k => XS.goto X35.here hx rfl (pc0 := 258) (pc' := 262) rfl (hb hby at_258) (by decide) (by decide) k) ?_
    show OGo p e below s room_1 (OLawQ n0) (T35.setTop (mkF m 262 #[.val (.int q1), .val (.int q2), .val (.int q3), .val (.ref b2), .val (.int c0), s5] [(.int (1 : Int32))]))
    exact own_retN X35 hx hlk (t := .boolean) hret (by simp) (hb hby at_262) (by decide) (by decide) (⟨rfl, NX⟩)
  show OGo p e below s room_1 (OLawQ n0) (T33.setTop (mkF m 193 #[.val (.int q1), .val (.int q2), .val (.int q3), .val (.ref b2), .unset, .unset] []))
  refine own_st (fun t k => XS.iloadN XX.here hx rfl (hb hby at_193) rfl k) ?_
  show OGo p e below s room_1 (OLawQ n0) (T33.setTop (mkF m 194 #[.val (.int q1), .val (.int q2), .val (.int q3), .val (.ref b2), .unset, .unset] [(.int q2)]))
  refine own_st (fun t k => XS.iconst XX.here hx rfl (hb hby at_194) k) ?_
  show OGo p e below s room_1 (OLawQ n0) (T33.setTop (mkF m 195 #[.val (.int q1), .val (.int q2), .val (.int q3), .val (.ref b2), .unset, .unset] [(.int (1 : Int32)), (.int q2)]))
  refine own_st (fun t k => XS.iand XX.here hx rfl (hb hby at_195) rfl k) ?_
  show OGo p e below s room_1 (OLawQ n0) (T33.setTop (mkF m 196 #[.val (.int q1), .val (.int q2), .val (.int q3), .val (.ref b2), .unset, .unset] [(.int (q2 &&& (1 : Int32)))]))
  by_cases hc196 : (q2 &&& (1 : Int32)) = (0 : Int32)
  · refine own_st (fun t k => XS.ifNo XX.here hx rfl (hb hby at_196) rfl ((if0 _ _).trans (teq (hc196)).2) k) ?_
    show OGo p e below s room_1 (OLawQ n0) (T33.setTop (mkF m 199 #[.val (.int q1), .val (.int q2), .val (.int q3), .val (.ref b2), .unset, .unset] []))
    refine own_st (fun t k => XS.iloadN XX.here hx rfl (hb hby at_199) rfl k) ?_
    show OGo p e below s room_1 (OLawQ n0) (T33.setTop (mkF m 200 #[.val (.int q1), .val (.int q2), .val (.int q3), .val (.ref b2), .unset, .unset] [(.int q1)]))
    refine own_st (XX.ldcInt hx hown (mvT hZ (hw _ (List.mem_of_getElem? (i := 26) rfl))) (g := (mkF m 200 #[.val (.int q1), .val (.int q2), .val (.int q3), .val (.ref b2), .unset, .unset] [(.int q1)])) rfl (hb hby at_200)) ?_
    show OGo p e below s room_1 (OLawQ n0) (T33.setTop (mkF m 202 #[.val (.int q1), .val (.int q2), .val (.int q3), .val (.ref b2), .unset, .unset] [(.int (2147483647 : Int32)), (.int q1)]))
    refine own_st (fun t k => XS.iand XX.here hx rfl (hb hby at_202) rfl k) ?_
    show OGo p e below s room_1 (OLawQ n0) (T33.setTop (mkF m 203 #[.val (.int q1), .val (.int q2), .val (.int q3), .val (.ref b2), .unset, .unset] [(.int (q1 &&& (2147483647 : Int32)))]))
    refine own_st (XX.ldcInt hx hown (mvT hZ (hw _ (List.mem_of_getElem? (i := 27) rfl))) (g := (mkF m 203 #[.val (.int q1), .val (.int q2), .val (.int q3), .val (.ref b2), .unset, .unset] [(.int (q1 &&& (2147483647 : Int32)))])) rfl (hb hby at_203)) ?_
    show OGo p e below s room_1 (OLawQ n0) (T33.setTop (mkF m 205 #[.val (.int q1), .val (.int q2), .val (.int q3), .val (.ref b2), .unset, .unset] [(.int (1114112 : Int32)), (.int (q1 &&& (2147483647 : Int32)))]))
    refine own_st (fun t k => iremM XX hx rfl (hb hby at_205) rfl (by decide) k) ?_
    show OGo p e below s room_1 (OLawQ n0) (T33.setTop (mkF m 206 #[.val (.int q1), .val (.int q2), .val (.int q3), .val (.ref b2), .unset, .unset] [(.int ((q1 &&& (2147483647 : Int32)) % (1114112 : Int32)))]))
    refine own_st (fun t k => XS.istore XX.here hx rfl (hb hby at_206) rfl (l' := #[.val (.int q1), .val (.int q2), .val (.int q3), .val (.ref b2), .val (.int ((q1 &&& (2147483647 : Int32)) % (1114112 : Int32))), .unset]) rfl k) ?_
    show OGo p e below s room_1 (OLawQ n0) (T33.setTop (mkF m 208 #[.val (.int q1), .val (.int q2), .val (.int q3), .val (.ref b2), .val (.int ((q1 &&& (2147483647 : Int32)) % (1114112 : Int32))), .unset] []))
    refine own_st (fun t k => XS.goto XX.here hx rfl (pc0 := 208) (pc' := 244) rfl (hb hby at_208) (by decide) (by decide) k) ?_
    show OGo p e below s room_1 (OLawQ n0) (T33.setTop (mkF m 244 #[.val (.int q1), .val (.int q2), .val (.int q3), .val (.ref b2), .val (.int ((q1 &&& (2147483647 : Int32)) % (1114112 : Int32))), .unset] []))
    exact J244 _ _ _ XX e33 (own_c1 _).1 (own_c1 _).2
  · refine own_st (fun t k => XS.ifYes XX.here hx rfl (pc0 := 196) (pc' := 211) rfl (hb hby at_196) rfl ((if0 _ _).trans (feq (hc196)).2) (by decide) (by decide) k) ?_
    show OGo p e below s room_1 (OLawQ n0) (T33.setTop (mkF m 211 #[.val (.int q1), .val (.int q2), .val (.int q3), .val (.ref b2), .unset, .unset] []))
    obtain ⟨i, hi, ei⟩ := own_ix q2
    refine own_st (fun t k => XS.aloadN XX.here hx rfl (hb hby at_211) rfl rfl k) ?_
    show OGo p e below s room_1 (OLawQ n0) (T33.setTop (mkF m 212 #[.val (.int q1), .val (.int q2), .val (.int q3), .val (.ref b2), .unset, .unset] [(.ref b2)]))
    refine own_st (fun t k => XS.iloadN XX.here hx rfl (hb hby at_212) rfl k) ?_
    show OGo p e below s room_1 (OLawQ n0) (T33.setTop (mkF m 213 #[.val (.int q1), .val (.int q2), .val (.int q3), .val (.ref b2), .unset, .unset] [(.int q2), (.ref b2)]))
    refine own_st (fun t k => XS.iconst XX.here hx rfl (hb hby at_213) k) ?_
    show OGo p e below s room_1 (OLawQ n0) (T33.setTop (mkF m 214 #[.val (.int q1), .val (.int q2), .val (.int q3), .val (.ref b2), .unset, .unset] [(.int (1 : Int32)), (.int q2), (.ref b2)]))
    refine own_st (fun t k => XS.iushr XX.here hx rfl (hb hby at_214) rfl k) ?_
    show OGo p e below s room_1 (OLawQ n0) (T33.setTop (mkF m 215 #[.val (.int q1), .val (.int q2), .val (.int q3), .val (.ref b2), .unset, .unset] [(.int ((q2.toUInt32 >>> ((1 : Int32) &&& 31).toUInt32).toInt32)), (.ref b2)]))
    refine own_st (fun t k => XS.aloadN XX.here hx rfl (hb hby at_215) rfl rfl k) ?_
    show OGo p e below s room_1 (OLawQ n0) (T33.setTop (mkF m 216 #[.val (.int q1), .val (.int q2), .val (.int q3), .val (.ref b2), .unset, .unset] [(.ref b2), (.int ((q2.toUInt32 >>> ((1 : Int32) &&& 31).toUInt32).toInt32)), (.ref b2)]))
    have A_c := A_b2
    obtain ⟨cl36, Ar36, Sz36, -⟩ := id A_b2
    refine own_st (XX.arraylength hx (by rw [e33]; exact Ar36.1) (State.isArrayOf_alike hZ.alike Ar36.2.1) (g := (mkF m 216 #[.val (.int q1), .val (.int q2), .val (.int q3), .val (.ref b2), .unset, .unset] [(.ref b2), (.int ((q2.toUInt32 >>> ((1 : Int32) &&& 31).toUInt32).toInt32)), (.ref b2)])) rfl rfl (hb hby at_216)) ?_
    rw [Sz36, (by decide : Nat.toInt32 30 = (30 : Int32))]
    show OGo p e below s room_1 (OLawQ n0) (T33.setTop (mkF m 217 #[.val (.int q1), .val (.int q2), .val (.int q3), .val (.ref b2), .unset, .unset] [(.int (30 : Int32)), (.int ((q2.toUInt32 >>> ((1 : Int32) &&& 31).toUInt32).toInt32)), (.ref b2)]))
    have A_b2 := A_c
    refine own_st (fun t k => iremM XX hx rfl (hb hby at_217) rfl (by decide) k) ?_
    show OGo p e below s room_1 (OLawQ n0) (T33.setTop (mkF m 218 #[.val (.int q1), .val (.int q2), .val (.int q3), .val (.ref b2), .unset, .unset] [(.int (((q2.toUInt32 >>> ((1 : Int32) &&& 31).toUInt32).toInt32) % (30 : Int32))), (.ref b2)]))
    rw [ei]
    obtain ⟨clx, Arx, Szx, Hhx⟩ := A_b2
    obtain ⟨z0, hz0⟩ := Hhx i hi
    have hinx := own_in (i := Int32.ofNat i) Szx (own_nat (i := i) (by omega)).2.1 (by rw [(own_nat (i := i) (by omega)).1]; exact hi)
    refine own_st (XX.iaload hx (j := Int32.ofNat i) (v := .int z0) (by rw [e33]; exact Arx.1) (State.isArrayOf_alike hZ.alike Arx.2.1) Arx.2.2 hinx (by rw [(own_nat (i := i) (by omega)).1]; exact hz0) (g := (mkF m 218 #[.val (.int q1), .val (.int q2), .val (.int q3), .val (.ref b2), .unset, .unset] [(.int (Int32.ofNat i)), (.ref b2)])) rfl rfl (hb hby at_218)) ?_
    show OGo p e below s room_1 (OLawQ n0) (T33.setTop (mkF m 219 #[.val (.int q1), .val (.int q2), .val (.int q3), .val (.ref b2), .unset, .unset] [(.int z0)]))
    refine own_st (fun t k => XS.istore XX.here hx rfl (hb hby at_219) rfl (l' := #[.val (.int q1), .val (.int q2), .val (.int q3), .val (.ref b2), .unset, .val (.int z0)]) rfl k) ?_
    show OGo p e below s room_1 (OLawQ n0) (T33.setTop (mkF m 221 #[.val (.int q1), .val (.int q2), .val (.int q3), .val (.ref b2), .unset, .val (.int z0)] []))
    refine own_st (fun t k => XS.iload XX.here hx rfl (hb hby at_221) rfl k) ?_
    show OGo p e below s room_1 (OLawQ n0) (T33.setTop (mkF m 223 #[.val (.int q1), .val (.int q2), .val (.int q3), .val (.ref b2), .unset, .val (.int z0)] [(.int z0)]))
    refine own_st (fun t k => XS.iloadN XX.here hx rfl (hb hby at_223) rfl k) ?_
    show OGo p e below s room_1 (OLawQ n0) (T33.setTop (mkF m 224 #[.val (.int q1), .val (.int q2), .val (.int q3), .val (.ref b2), .unset, .val (.int z0)] [(.int q3), (.int z0)]))
    refine own_st (fun t k => XS.iconst XX.here hx rfl (hb hby at_224) k) ?_
    show OGo p e below s room_1 (OLawQ n0) (T33.setTop (mkF m 225 #[.val (.int q1), .val (.int q2), .val (.int q3), .val (.ref b2), .unset, .val (.int z0)] [(.int (3 : Int32)), (.int q3), (.int z0)]))
    refine own_st (fun t k => XS.iand XX.here hx rfl (hb hby at_225) rfl k) ?_
    show OGo p e below s room_1 (OLawQ n0) (T33.setTop (mkF m 226 #[.val (.int q1), .val (.int q2), .val (.int q3), .val (.ref b2), .unset, .val (.int z0)] [(.int (q3 &&& (3 : Int32))), (.int z0)]))
    refine own_st (fun t k => XS.iconst XX.here hx rfl (hb hby at_226) k) ?_
    show OGo p e below s room_1 (OLawQ n0) (T33.setTop (mkF m 227 #[.val (.int q1), .val (.int q2), .val (.int q3), .val (.ref b2), .unset, .val (.int z0)] [(.int (2 : Int32)), (.int (q3 &&& (3 : Int32))), (.int z0)]))
    refine own_st (fun t k => XS.isub XX.here hx rfl (hb hby at_227) rfl k) ?_
    show OGo p e below s room_1 (OLawQ n0) (T33.setTop (mkF m 228 #[.val (.int q1), .val (.int q2), .val (.int q3), .val (.ref b2), .unset, .val (.int z0)] [(.int ((q3 &&& (3 : Int32)) - (2 : Int32))), (.int z0)]))
    refine own_st (fun t k => XS.iadd XX.here hx rfl (hb hby at_228) rfl k) ?_
    show OGo p e below s room_1 (OLawQ n0) (T33.setTop (mkF m 229 #[.val (.int q1), .val (.int q2), .val (.int q3), .val (.ref b2), .unset, .val (.int z0)] [(.int (z0 + ((q3 &&& (3 : Int32)) - (2 : Int32))))]))
    refine own_st (fun t k => XS.istore XX.here hx rfl (hb hby at_229) rfl (l' := #[.val (.int q1), .val (.int q2), .val (.int q3), .val (.ref b2), .val (.int (z0 + ((q3 &&& (3 : Int32)) - (2 : Int32)))), .val (.int z0)]) rfl k) ?_
    show OGo p e below s room_1 (OLawQ n0) (T33.setTop (mkF m 231 #[.val (.int q1), .val (.int q2), .val (.int q3), .val (.ref b2), .val (.int (z0 + ((q3 &&& (3 : Int32)) - (2 : Int32)))), .val (.int z0)] []))
    refine own_st (fun t k => XS.iconst XX.here hx rfl (hb hby at_231) k) ?_
    show OGo p e below s room_1 (OLawQ n0) (T33.setTop (mkF m 232 #[.val (.int q1), .val (.int q2), .val (.int q3), .val (.ref b2), .val (.int (z0 + ((q3 &&& (3 : Int32)) - (2 : Int32)))), .val (.int z0)] [(.int (0 : Int32))]))
    refine own_st (XX.ldcInt hx hown (mvT hZ (hw _ (List.mem_of_getElem? (i := 8) rfl))) (g := (mkF m 232 #[.val (.int q1), .val (.int q2), .val (.int q3), .val (.ref b2), .val (.int (z0 + ((q3 &&& (3 : Int32)) - (2 : Int32)))), .val (.int z0)] [(.int (0 : Int32))])) rfl (hb hby at_232)) ?_
    show OGo p e below s room_1 (OLawQ n0) (T33.setTop (mkF m 234 #[.val (.int q1), .val (.int q2), .val (.int q3), .val (.ref b2), .val (.int (z0 + ((q3 &&& (3 : Int32)) - (2 : Int32)))), .val (.int z0)] [(.int (1114111 : Int32)), (.int (0 : Int32))]))
    refine own_st (fun t k => XS.iload XX.here hx rfl (hb hby at_234) rfl k) ?_
    show OGo p e below s room_1 (OLawQ n0) (T33.setTop (mkF m 236 #[.val (.int q1), .val (.int q2), .val (.int q3), .val (.ref b2), .val (.int (z0 + ((q3 &&& (3 : Int32)) - (2 : Int32)))), .val (.int z0)] [(.int (z0 + ((q3 &&& (3 : Int32)) - (2 : Int32)))), (.int (1114111 : Int32)), (.int (0 : Int32))]))
    obtain ⟨T37, X37, e37, st37⟩ := own_callSP XX hx hZ (y := (⟨"java/lang/Math", "min", "(II)I"⟩ : MethodName)) (W := 1) hown (hw _ (List.mem_of_getElem? (i := 9) rfl)) (hw _ (List.mem_of_getElem? (i := 10) rfl)) (hw _ (List.mem_of_getElem? (i := 11) rfl)) (hw _ (List.mem_of_getElem? (i := 12) rfl)) (by decide) (rm1 l Z a0 hw (1114111 : Int32) (z0 + ((q3 &&& (3 : Int32)) - (2 : Int32))) hp33) (by decide) (by decide) (g := (mkF m 236 #[.val (.int q1), .val (.int q2), .val (.int q3), .val (.ref b2), .val (.int (z0 + ((q3 &&& (3 : Int32)) - (2 : Int32)))), .val (.int z0)] [(.int (z0 + ((q3 &&& (3 : Int32)) - (2 : Int32)))), (.int (1114111 : Int32)), (.int (0 : Int32))])) rfl (by rw [hml]; rfl) (argsL := [(.int (1114111 : Int32)), (.int (z0 + ((q3 &&& (3 : Int32)) - (2 : Int32))))]) (rest := [(.int (0 : Int32))]) (lenOf pd_1 rfl) rfl (by show 2 * 0 + _ ≤ _; exact Nat.le_of_eq rfl) (hb hby at_236) rfl e33 (by decide) (by decide)
    refine own_st st37 ?_
    show OGo p e below s room_1 (OLawQ n0) (T37.setTop (mkF m 239 #[.val (.int q1), .val (.int q2), .val (.int q3), .val (.ref b2), .val (.int (z0 + ((q3 &&& (3 : Int32)) - (2 : Int32)))), .val (.int z0)] [(.int (own_minI (1114111 : Int32) (z0 + ((q3 &&& (3 : Int32)) - (2 : Int32))))), (.int (0 : Int32))]))
    obtain ⟨T38, X38, e38, st38⟩ := own_callSP X37 hx hZ (y := (⟨"java/lang/Math", "max", "(II)I"⟩ : MethodName)) (W := 0) hown (hw _ (List.mem_of_getElem? (i := 13) rfl)) (hw _ (List.mem_of_getElem? (i := 14) rfl)) (hw _ (List.mem_of_getElem? (i := 11) rfl)) (hw _ (List.mem_of_getElem? (i := 15) rfl)) (by decide) (rm2 l Z a0 hw (0 : Int32) (own_minI (1114111 : Int32) (z0 + ((q3 &&& (3 : Int32)) - (2 : Int32)))) hp33) (by decide) (by decide) (g := (mkF m 239 #[.val (.int q1), .val (.int q2), .val (.int q3), .val (.ref b2), .val (.int (z0 + ((q3 &&& (3 : Int32)) - (2 : Int32)))), .val (.int z0)] [(.int (own_minI (1114111 : Int32) (z0 + ((q3 &&& (3 : Int32)) - (2 : Int32))))), (.int (0 : Int32))])) rfl (by rw [hml]; rfl) (argsL := [(.int (0 : Int32)), (.int (own_minI (1114111 : Int32) (z0 + ((q3 &&& (3 : Int32)) - (2 : Int32)))))]) (rest := []) (lenOf pd_1 rfl) rfl (by show 2 * 0 + _ ≤ _; exact Nat.le_of_eq rfl) (hb hby at_239) rfl e37 (by decide) (by decide)
    refine own_st st38 ?_
    show OGo p e below s room_1 (OLawQ n0) (T38.setTop (mkF m 242 #[.val (.int q1), .val (.int q2), .val (.int q3), .val (.ref b2), .val (.int (z0 + ((q3 &&& (3 : Int32)) - (2 : Int32)))), .val (.int z0)] [(.int (own_maxI (0 : Int32) (own_minI (1114111 : Int32) (z0 + ((q3 &&& (3 : Int32)) - (2 : Int32))))))]))
    refine own_st (fun t k => XS.istore X38.here hx rfl (hb hby at_242) rfl (l' := #[.val (.int q1), .val (.int q2), .val (.int q3), .val (.ref b2), .val (.int (own_maxI (0 : Int32) (own_minI (1114111 : Int32) (z0 + ((q3 &&& (3 : Int32)) - (2 : Int32)))))), .val (.int z0)]) rfl k) ?_
    show OGo p e below s room_1 (OLawQ n0) (T38.setTop (mkF m 244 #[.val (.int q1), .val (.int q2), .val (.int q3), .val (.ref b2), .val (.int (own_maxI (0 : Int32) (own_minI (1114111 : Int32) (z0 + ((q3 &&& (3 : Int32)) - (2 : Int32)))))), .val (.int z0)] []))
    exact J244 _ _ _ X38 e38 (own_c2 _).1 (own_c2 _).2
section OwnTab
variable {args : Array Value} {s : State} {t : Term} {a : Addr} {cl : Cell}
theorem own_len {n : Int32} (ht : t.eval args s none [] s = some (.ref a)) (hA : s.arrayAt? a = some cl) (hn : n.toInt = 128) (h : (Jvm.Cond.eq (.length t) (.int n)).value args s none s [] = some true) : cl.slots.size = 128 := by
  by_cases hl : cl.slots.size < 2 ^ 31
  · have e := len_f ht hA hl
    have h' : cl.slots.size.toInt32 = n := by
      simp only [Cond.value, e, Term.int_eval] at h
      simpa using h
    have q := len_toInt hl
    rw [h', hn] at q
    omega
  · simp [Cond.value, Term.eval, ht, hA, hl] at h
theorem own_el {idx : List Nat} {i : Term} {k : Nat} {v : Int32} (ht : t.eval args s none idx s = some (.ref a)) (hA : s.arrayAt? a = some cl) (hi : i.eval args s none idx s = some (.int (Int32.ofNat k))) (hk : k < 2 ^ 31) (h : (Jvm.Cond.eq (.elem t i) (.int v)).value args s none s idx = some true) : cl.slots[k]? = some (.int v) := by
  have e := elem_f ht hi hA (own_nat hk).2.1
  rw [(own_nat hk).1] at e
  cases hc : cl.slots[k]? with
  | none => rw [hc] at e; simp only [Cond.value, e] at h; cases h
  | some x =>
    rw [hc] at e
    cases x <;> simp only [Cond.value, e, Term.int_eval] at h <;> first | (cases h; done) | skip
    simp only [Option.some.injEq, decide_eq_true_eq] at h
    rw [h]
theorem own_ixe (j : Nat) : (Term.index 0).eval args s none [j] s = some (.int (Int32.ofNat j)) := rfl
theorem own_all {G : Jvm.Cond} {v : Int32} {j : Nat} (ht : ∀ idx, t.eval args s none idx s = some (.ref a)) (hA : s.arrayAt? a = some cl) (hs : cl.slots.size = 128) (hj : j < 128) (hG : G.value args s none s [j] = some false) (h : (Jvm.Cond.all t (.or G (.eq (.elem t (.index 0)) (.int v)))).value args s none s [] = some true) : cl.slots[j]? = some (.int v) := by
  have q := Cond.all_elim (ht []) hA h j (by omega)
  rw [Cond.or_of_right hG] at q
  exact own_el (ht _) hA (own_ixe j) (by omega) q
theorem own_all2 {G H : Jvm.Cond} {v : Int32} {j : Nat} (ht : ∀ idx, t.eval args s none idx s = some (.ref a)) (hA : s.arrayAt? a = some cl) (hs : cl.slots.size = 128) (hj : j < 128) (hG : G.value args s none s [j] = some false) (hH : H.value args s none s [j] = some false) (h : (Jvm.Cond.all t (.or G (.or H (.eq (.elem t (.index 0)) (.int v))))).value args s none s [] = some true) : cl.slots[j]? = some (.int v) := by
  have q := Cond.all_elim (ht []) hA h j (by omega)
  rw [Cond.or_of_right hG, Cond.or_of_right hH] at q
  exact own_el (ht _) hA (own_ixe j) (by omega) q
theorem own_le {k : Int32} {j : Nat} (hj : j < 128) (h : (j : Int) < k.toInt) : (Jvm.Cond.le (.int k) (.index 0)).value args s none s [j] = some false := by
  have e : (Jvm.Cond.le (.int k) (.index 0)).value args s none s [j] = some (decide (k ≤ Int32.ofNat j)) := Cond.le_ints rfl rfl
  rw [e, decide_eq_false]
  rw [Int32.le_iff_toInt_le, (own_nat (by omega)).2.2]; omega
theorem own_ltc {k : Int32} {j : Nat} (hj : j < 128) (h : k.toInt ≤ (j : Int)) : (Jvm.Cond.lt (.index 0) (.int k)).value args s none s [j] = some false := by
  have e : (Jvm.Cond.lt (.index 0) (.int k)).value args s none s [j] = some (decide (Int32.ofNat j < k)) := Cond.lt_ints rfl rfl
  rw [e, decide_eq_false]
  rw [Int32.lt_iff_toInt_lt, (own_nat (by omega)).2.2]; omega
end OwnTab
set_option maxRecDepth 65536 in
set_option maxHeartbeats 40000000 in
theorem comes_1 {Post : Tables → Env → Array Value → State → Outcome → State → Prop} (hpost : ∀ tb e args s v u, (limb_1_1.after args s (.returned v) u = true ∧ limb_1_2.after args s (.returned v) u = true ∧ True) → FrameEnd s (.returned v) u (Jvm.fieldLocs frame_1_writes args s ++ Jvm.arrayLocs frame_1_arrays args s ++ Jvm.staticLocs frame_1_statics s) 16 128 → Post tb e args s (.returned v) u) :
    ArmFor flags0 classFile x code maxLocals ret World_1 tables_1 room_1 Calls_1 rest_1 Pre_1 Post := by
  intro l hfl _ _ p e ha hc hk s m args below hf hA hF happ hP
  obtain ⟨hcalls, hrest, hpre⟩ := hP
  obtain ⟨-, -, -, hnamed, -, -, -, hat⟩ := (Spec.applies_iff hf).mp happ
  obtain ⟨hg, hn⟩ := and_e (Cond.before_iff.mp (show (Jvm.Cond.and given_1 narrow_1).before args s = true from hpre))
  obtain ⟨gs1, gs2⟩ := and_e hg
  obtain ⟨gs3, gs4⟩ := and_e gs2
  obtain ⟨gs5, gs6⟩ := and_e gs4
  obtain ⟨w0, w1, w2, rfl⟩ : ∃ w0 w1 w2 : Value, args = #[w0, w1, w2] := by
    have hs : args.size = 3 := by simpa [Cond.value, given_1] using gs1
    obtain ⟨L⟩ := args
    match L, hs with
    | [w0, w1, w2], _ => exact ⟨w0, w1, w2, rfl⟩
  have hw := fun d (hd : d ∈ tables_1) => atoms_spec (ws := Jvm.Cond.code x code maxLocals ret :: tables_1) hat d (List.mem_cons_of_mem _ hd)
  have hfit : Fit s := fun {y c} hc i hi => by
    obtain ⟨ha, rfl⟩ := Array.getElem?_eq_some_iff.mp hc
    have q := List.all_eq_true.mp ((Array.all_eq_true_iff_forall_mem.mp hF) _ (Array.getElem_mem ha)) i (List.mem_range.mpr hi)
    simpa [Array.getElem?_eq_getElem hi] using q
  obtain ⟨i0, ei0⟩ := is_v gs3
  obtain rfl : w0 = (.int i0) := Option.some.inj ei0
  obtain ⟨i1, ei1⟩ := is_v gs5
  obtain rfl : w1 = (.int i1) := Option.some.inj ei1
  obtain ⟨i2, ei2⟩ := is_v gs6
  obtain rfl : w2 = (.int i2) := Option.some.inj ei2
  obtain ⟨k1, z1⟩ := and_e hn
  obtain ⟨k2, z2⟩ := and_e z1
  obtain ⟨k3, z3⟩ := and_e z2
  obtain ⟨k4, z4⟩ := and_e z3
  obtain ⟨k5, z5⟩ := and_e z4
  obtain ⟨k6, z6⟩ := and_e z5
  obtain ⟨k7, z7⟩ := and_e z6
  obtain ⟨k8, z8⟩ := and_e z7
  obtain ⟨k9, z9⟩ := and_e z8
  obtain ⟨k10, z10⟩ := and_e z9
  obtain ⟨k11, z11⟩ := and_e z10
  obtain ⟨k12, z12⟩ := and_e z11
  obtain ⟨k13, z13⟩ := and_e z12
  obtain ⟨k14, z14⟩ := and_e z13
  obtain ⟨b1, hb1⟩ := arr_v k1
  have hS := Sta.start hb1 (Or.inr ⟨(hw _ (List.mem_of_getElem? (i := 18) rfl)), (hw _ (List.mem_of_getElem? (i := 21) rfl))⟩)
  obtain ⟨cl, Arr1⟩ := Arr.start hb1 k1
  have hAt := Arr1.fin (Vm.Alike.refl _)
  have ht : ∀ idx, (Jvm.Term.static "com/example/cartulary/cartulary/XmlNames" "ASCII" "[B").eval #[.int i0, .int i1, .int i2] s none idx s = some (.ref b1) := fun idx => hb1
  have hsz := own_len (ht []) hAt (by decide) k2
  have hA : OAr s s.heap b1 .byte 128 (fun j => .int (own_tab j)) := by
    refine ⟨cl, Arr1, hsz, fun j hj => ?_⟩
    unfold own_tab
    by_cases u45 : j < 45
    · have q : cl.slots[j]? = some (.int (0 : Int32)) := by
        exact own_all ht hAt hsz hj (own_le hj (by rw [show (45 : Int32).toInt = 45 from by decide]; omega)) k3
      rw [q]; congr 2; repeat (first | rw [if_pos (by omega)] | rw [if_neg (by omega)])
    by_cases u46 : j < 46
    · have q : cl.slots[j]? = some (.int (2 : Int32)) := by
        obtain rfl : j = 45 := by omega
        exact own_el (ht []) hAt (i := .int (45 : Int32)) (k := 45) rfl (by decide) k4
      rw [q]; congr 2; repeat (first | rw [if_pos (by omega)] | rw [if_neg (by omega)])
    by_cases u47 : j < 47
    · have q : cl.slots[j]? = some (.int (2 : Int32)) := by
        obtain rfl : j = 46 := by omega
        exact own_el (ht []) hAt (i := .int (46 : Int32)) (k := 46) rfl (by decide) k5
      rw [q]; congr 2; repeat (first | rw [if_pos (by omega)] | rw [if_neg (by omega)])
    by_cases u48 : j < 48
    · have q : cl.slots[j]? = some (.int (0 : Int32)) := by
        obtain rfl : j = 47 := by omega
        exact own_el (ht []) hAt (i := .int (47 : Int32)) (k := 47) rfl (by decide) k6
      rw [q]; congr 2; repeat (first | rw [if_pos (by omega)] | rw [if_neg (by omega)])
    by_cases u58 : j < 58
    · have q : cl.slots[j]? = some (.int (2 : Int32)) := by
        exact own_all2 ht hAt hsz hj (own_ltc hj (by rw [show (48 : Int32).toInt = 48 from by decide]; omega)) (own_le hj (by rw [show (58 : Int32).toInt = 58 from by decide]; omega)) k7
      rw [q]; congr 2; repeat (first | rw [if_pos (by omega)] | rw [if_neg (by omega)])
    by_cases u59 : j < 59
    · have q : cl.slots[j]? = some (.int (3 : Int32)) := by
        obtain rfl : j = 58 := by omega
        exact own_el (ht []) hAt (i := .int (58 : Int32)) (k := 58) rfl (by decide) k8
      rw [q]; congr 2; repeat (first | rw [if_pos (by omega)] | rw [if_neg (by omega)])
    by_cases u65 : j < 65
    · have q : cl.slots[j]? = some (.int (0 : Int32)) := by
        exact own_all2 ht hAt hsz hj (own_ltc hj (by rw [show (59 : Int32).toInt = 59 from by decide]; omega)) (own_le hj (by rw [show (65 : Int32).toInt = 65 from by decide]; omega)) k9
      rw [q]; congr 2; repeat (first | rw [if_pos (by omega)] | rw [if_neg (by omega)])
    by_cases u91 : j < 91
    · have q : cl.slots[j]? = some (.int (3 : Int32)) := by
        exact own_all2 ht hAt hsz hj (own_ltc hj (by rw [show (65 : Int32).toInt = 65 from by decide]; omega)) (own_le hj (by rw [show (91 : Int32).toInt = 91 from by decide]; omega)) k10
      rw [q]; congr 2; repeat (first | rw [if_pos (by omega)] | rw [if_neg (by omega)])
    by_cases u95 : j < 95
    · have q : cl.slots[j]? = some (.int (0 : Int32)) := by
        exact own_all2 ht hAt hsz hj (own_ltc hj (by rw [show (91 : Int32).toInt = 91 from by decide]; omega)) (own_le hj (by rw [show (95 : Int32).toInt = 95 from by decide]; omega)) k11
      rw [q]; congr 2; repeat (first | rw [if_pos (by omega)] | rw [if_neg (by omega)])
    by_cases u96 : j < 96
    · have q : cl.slots[j]? = some (.int (3 : Int32)) := by
        obtain rfl : j = 95 := by omega
        exact own_el (ht []) hAt (i := .int (95 : Int32)) (k := 95) rfl (by decide) k12
      rw [q]; congr 2; repeat (first | rw [if_pos (by omega)] | rw [if_neg (by omega)])
    by_cases u97 : j < 97
    · have q : cl.slots[j]? = some (.int (0 : Int32)) := by
        obtain rfl : j = 96 := by omega
        exact own_el (ht []) hAt (i := .int (96 : Int32)) (k := 96) rfl (by decide) k13
      rw [q]; congr 2; repeat (first | rw [if_pos (by omega)] | rw [if_neg (by omega)])
    by_cases u123 : j < 123
    · have q : cl.slots[j]? = some (.int (3 : Int32)) := by
        exact own_all2 ht hAt hsz hj (own_ltc hj (by rw [show (97 : Int32).toInt = 97 from by decide]; omega)) (own_le hj (by rw [show (123 : Int32).toInt = 123 from by decide]; omega)) k14
      rw [q]; congr 2; repeat (first | rw [if_pos (by omega)] | rw [if_neg (by omega)])
    have q : cl.slots[j]? = some (.int (0 : Int32)) := by
      exact own_all ht hAt hsz hj (own_ltc hj (by rw [show (123 : Int32).toInt = 123 from by decide]; omega)) z14
    rw [q]; congr 2; repeat (first | rw [if_pos (by omega)] | rw [if_neg (by omega)])
  obtain ⟨n, o, h1, h2, h3, _, L, rfl, ⟨rfl, N⟩, hq⟩ := rm0 l s _ hw tables_1 i0 i1 i2 b1 s.heap s.heap.size (Nat.le_refl _) hS hA p e ha hc hk s m _ below hf ((Spec.applies_iff_loose hf).mp happ).1 ⟨rfl, State.Warmed39.refl s, rfl⟩ trivial
  refine ⟨n, _, h1, h2, h3, hpost _ _ _ _ _ _ ⟨Cond.after_iff.mpr rfl, Cond.after_iff.mpr (eq_i res_at (Term.int_eval (1)) rfl), trivial⟩ ⟨hq.1, hq.2.1, (hq.2.2.sift fun y hy => Or.inr (N y hy)).mono (by decide) (by decide)⟩⟩
theorem main_1_1 : Claimed_1_1 := comes_1 fun _ _ _ _ _ _ h hF => ⟨h.1, hF⟩
theorem main_1_2 : Claimed_1_2 := comes_1 fun _ _ _ _ _ _ h hF => ⟨h.2.1, hF⟩
end Jvm.Pilot.@@N@@
namespace Jvm.Pilot.@@N@@
open Jvm Jvm.ClassFile Sem Op Lib Jvm.Free Jvm.Stand Jvm.Pilot.@@N@@.Jvm.D
/-! MADE BY PROGRAM (witnessworld.py) out of the Statement's table words and the real class files: 10 classes; the members and pool entries that the words name. The judged class is class 1, her method 2. -/
namespace start1
open Jvm.ClassFile
def u (s : String) : CpInfo := .utf8 (stringToUtf16 s)
/-- a pool by its gaps: so many unusable entries, then the entry; so many at the end -/
def gap : Nat → List CpInfo → List CpInfo
  | 0, r => r
  | n + 1, r => .unusable :: gap n r
def poolList (es : List (Nat × CpInfo)) (last : Nat) : List CpInfo := es.foldr (fun e r => gap e.1 (e.2 :: r)) (gap last [])
def pool (es : List (Nat × CpInfo)) (last : Nat) : Array CpInfo := ⟨poolList es last⟩
def fileOf (pool : Array CpInfo) (this : Nat) (attrs : Array Attribute := #[]) (ms : Array MethodInfo := #[]) (fl : Nat := 33) (sup : Nat := 0) (ifs : Array Nat := #[]) (fds : Array FieldInfo := #[]) : ClassFile where
  minorVersion := 0
  majorVersion := 65
  constantPool := pool
  accessFlags := fl
  thisClass := this
  superClass := sup
  interfaces := ifs
  fields := fds
  methods := ms
  attributes := attrs
def plain (name : String) (sup : Option ClassId) : Class where
  name := name
  kind := .ordinary
  loader := none
  accessFlags := 33
  super := sup
  interfaces := #[]
  cf := none
  fields := #[]
  methods := #[]
  instanceTypes := #[]
  staticTypes := #[]
  resolved := #[]
  callSites := []
  init := .initialized
  statics := none
  mirror := none

def pool0 : Array CpInfo := pool [(5, u "<init>"), (0, u "()V"), (1, .class_ 10), (1, u "java/lang/Object")] 113

def k0m0 : Method := { name := "<init>", desc := "()V", sig := { parameters := [], returnType := none }, accessFlags := 1, code := none }
/-- java/lang/Object -/
def k0 : Class := { plain "java/lang/Object" none with
  accessFlags := 33
  interfaces := #[]
  cf := some (fileOf pool0 8 #[] #[{ accessFlags := 1, nameIndex := 5, descriptorIndex := 6, attributes := #[] }] 33 0 #[] #[])
  fields := #[]
  methods := #[k0m0]
  instanceTypes := #[]
  staticTypes := #[]
  resolved := Array.replicate 124 none
  statics := none }

def pool1 : Array CpInfo := pool [(2, .class_ 4), (1, u "java/lang/Object"), (0, u "<init>"), (0, u "()V"), (0, .integer 55296), (0, .integer 63743), (0, .integer 64976), (0, .integer 65007), (0, .integer 65534), (0, .integer 65535), (0, .integer 983040), (0, .integer 63744), (0, .integer 65008), (0, .integer 65536), (0, .integer 1114111), (0, .integer 2147483647), (0, .integer 1114112), (0, .methodref 21 22), (0, .class_ 23), (0, .nameAndType 24 25), (0, u "java/lang/Math"), (0, u "min"), (0, u "(II)I"), (0, .methodref 21 27), (0, .nameAndType 28 25), (0, u "max"), (0, .methodref 30 31), (0, .class_ 32), (0, .nameAndType 33 34), (0, u "com/example/cartulary/cartulary/XmlNames"), (0, u "isNameStart"), (0, u "(I)Z"), (0, .methodref 36 37), (0, .class_ 38), (0, .nameAndType 39 34), (0, u "com/example/cartulary/cartulary/XmlNamesIsNameStartPinLaw"), (0, u "reference"), (3, u "law"), (0, u "(III)Z")] 4

def k1m0 : Method := { name := "<init>", desc := "()V", sig := { parameters := [], returnType := none }, accessFlags := 2, code := none }
def k1c1 : Code := { maxStack := 2, maxLocals := 2, code := method_2_code, exceptionTable := #[], attributes := #[] }
def k1m1 : Method := { name := "reference", desc := "(I)Z", sig := { parameters := [.int], returnType := some .boolean }, accessFlags := 10, code := some k1c1 }
def k1c2 : Code := { maxStack := 4, maxLocals := 6, code := code, exceptionTable := #[], attributes := #[] }
def k1m2 : Method := { name := "law", desc := "(III)Z", sig := { parameters := [.int, .int, .int], returnType := some .boolean }, accessFlags := 9, code := some k1c2 }
/-- com/example/cartulary/cartulary/XmlNamesIsNameStartPinLaw -/
def k1 : Class := { plain "com/example/cartulary/cartulary/XmlNamesIsNameStartPinLaw" (some 0) with
  accessFlags := 49
  interfaces := #[]
  cf := some (fileOf pool1 36 #[] #[{ accessFlags := 2, nameIndex := 5, descriptorIndex := 6, attributes := #[] }, { accessFlags := 10, nameIndex := 39, descriptorIndex := 34, attributes := #[] }, { accessFlags := 9, nameIndex := 43, descriptorIndex := 44, attributes := #[] }] 49 2 #[] #[])
  fields := #[]
  methods := #[k1m0, k1m1, k1m2]
  instanceTypes := #[]
  staticTypes := #[]
  resolved := Array.replicate 49 none
  statics := none }

def pool2 : Array CpInfo := pool [(1, .class_ 2), (0, u "java/lang/Math"), (1, .class_ 6), (1, u "java/lang/Object"), (0, u "<init>"), (0, u "()V"), (89, .class_ 100), (1, u "java/lang/Math$RandomNumberGeneratorHolder"), (71, u "negativeZeroFloatBits"), (0, u "J"), (2, u "negativeZeroDoubleBits"), (21, u "max"), (2, u "min"), (43, u "$assertionsDisabled"), (0, u "Z"), (88, u "(II)I"), (2, u "twoToTheDoubleScaleDown"), (0, u "D"), (4, u "twoToTheDoubleScaleUp"), (9, u "E"), (3, u "PI"), (2, u "TAU"), (2, u "DEGREES_TO_RADIANS"), (0, u "RADIANS_TO_DEGREES")] 94

def k2m0 : Method := { name := "<init>", desc := "()V", sig := { parameters := [], returnType := none }, accessFlags := 2, code := none }
def k2c1 : Code := { maxStack := 2, maxLocals := 2, code := jdk_29_method_65_code, exceptionTable := #[], attributes := #[] }
def k2m1 : Method := { name := "max", desc := "(II)I", sig := { parameters := [.int, .int], returnType := some .int }, accessFlags := 9, code := some k2c1 }
def k2c2 : Code := { maxStack := 2, maxLocals := 2, code := jdk_29_method_69_code, exceptionTable := #[], attributes := #[] }
def k2m2 : Method := { name := "min", desc := "(II)I", sig := { parameters := [.int, .int], returnType := some .int }, accessFlags := 9, code := some k2c2 }
/-- java/lang/Math -/
def k2 : Class := { plain "java/lang/Math" (some 0) with
  accessFlags := 49
  interfaces := #[]
  cf := some (fileOf pool2 1 #[.nestMembers #[98]] #[{ accessFlags := 2, nameIndex := 7, descriptorIndex := 8, attributes := #[] }, { accessFlags := 9, nameIndex := 198, descriptorIndex := 335, attributes := #[] }, { accessFlags := 9, nameIndex := 201, descriptorIndex := 335, attributes := #[] }] 49 4 #[] #[{ accessFlags := 25, nameIndex := 354, descriptorIndex := 339, attributes := #[] }, { accessFlags := 25, nameIndex := 358, descriptorIndex := 339, attributes := #[] }, { accessFlags := 25, nameIndex := 361, descriptorIndex := 339, attributes := #[] }, { accessFlags := 26, nameIndex := 364, descriptorIndex := 339, attributes := #[] }, { accessFlags := 26, nameIndex := 365, descriptorIndex := 339, attributes := #[] }, { accessFlags := 26, nameIndex := 172, descriptorIndex := 173, attributes := #[] }, { accessFlags := 26, nameIndex := 176, descriptorIndex := 173, attributes := #[] }, { accessFlags := 8, nameIndex := 344, descriptorIndex := 339, attributes := #[] }, { accessFlags := 8, nameIndex := 338, descriptorIndex := 339, attributes := #[] }, { accessFlags := 4120, nameIndex := 245, descriptorIndex := 246, attributes := #[] }])
  fields := #[{ name := "E", type := .double, accessFlags := 25, slot := 0, constantValue := 0 }, { name := "PI", type := .double, accessFlags := 25, slot := 1, constantValue := 0 }, { name := "TAU", type := .double, accessFlags := 25, slot := 2, constantValue := 0 }, { name := "DEGREES_TO_RADIANS", type := .double, accessFlags := 26, slot := 3, constantValue := 0 }, { name := "RADIANS_TO_DEGREES", type := .double, accessFlags := 26, slot := 4, constantValue := 0 }, { name := "negativeZeroFloatBits", type := .long, accessFlags := 26, slot := 5, constantValue := 0 }, { name := "negativeZeroDoubleBits", type := .long, accessFlags := 26, slot := 6, constantValue := 0 }, { name := "twoToTheDoubleScaleUp", type := .double, accessFlags := 8, slot := 7, constantValue := 0 }, { name := "twoToTheDoubleScaleDown", type := .double, accessFlags := 8, slot := 8, constantValue := 0 }, { name := "$assertionsDisabled", type := .boolean, accessFlags := 4120, slot := 9, constantValue := 0 }]
  methods := #[k2m0, k2m1, k2m2]
  instanceTypes := #[]
  staticTypes := #[.double, .double, .double, .double, .double, .long, .long, .double, .double, .boolean]
  resolved := Array.replicate 460 none
  statics := none }

def pool3 : Array CpInfo := pool [(2, .class_ 4), (1, u "java/lang/Object"), (0, u "<init>"), (0, u "()V"), (0, .fieldref 8 9), (0, .class_ 10), (0, .nameAndType 11 12), (0, u "com/example/cartulary/cartulary/XmlNames"), (0, u "ASCII"), (0, u "[B"), (0, .integer 55295), (0, .integer 63744), (0, .integer 64975), (0, .integer 65008), (0, .integer 65533), (0, .integer 65536), (0, .integer 983039), (2, u "isNameStart"), (0, u "(I)Z"), (23, u "STARTS"), (0, u "B"), (2, u "PART")] 11

def k3m0 : Method := { name := "<init>", desc := "()V", sig := { parameters := [], returnType := none }, accessFlags := 2, code := none }
def k3c1 : Code := { maxStack := 2, maxLocals := 1, code := prog_169_method_2_code, exceptionTable := #[], attributes := #[] }
def k3m1 : Method := { name := "isNameStart", desc := "(I)Z", sig := { parameters := [.int], returnType := some .boolean }, accessFlags := 8, code := some k3c1 }
/-- com/example/cartulary/cartulary/XmlNames -/
def k3 : Class := { plain "com/example/cartulary/cartulary/XmlNames" (some 0) with
  accessFlags := 48
  interfaces := #[]
  cf := some (fileOf pool3 8 #[] #[{ accessFlags := 2, nameIndex := 5, descriptorIndex := 6, attributes := #[] }, { accessFlags := 8, nameIndex := 22, descriptorIndex := 23, attributes := #[] }] 48 2 #[] #[{ accessFlags := 26, nameIndex := 11, descriptorIndex := 12, attributes := #[] }, { accessFlags := 26, nameIndex := 47, descriptorIndex := 48, attributes := #[] }, { accessFlags := 26, nameIndex := 51, descriptorIndex := 48, attributes := #[] }])
  fields := #[{ name := "ASCII", type := (.array .byte), accessFlags := 26, slot := 0, constantValue := 0 }, { name := "STARTS", type := .byte, accessFlags := 26, slot := 1, constantValue := 0 }, { name := "PART", type := .byte, accessFlags := 26, slot := 2, constantValue := 0 }]
  methods := #[k3m0, k3m1]
  instanceTypes := #[]
  staticTypes := #[(.array .byte), .byte, .byte]
  resolved := Array.replicate 63 none
  statics := some 0 }

def pool4 : Array CpInfo := pool [(1, u "java/lang/Cloneable"), (0, .class_ 1), (0, u "java/lang/Object"), (0, .class_ 3)] 3

/-- java/lang/Cloneable -/
def k4 : Class := { plain "java/lang/Cloneable" (some 0) with
  accessFlags := 1537
  interfaces := #[]
  cf := some (fileOf pool4 2 #[] #[] 1537 4 #[] #[])
  fields := #[]
  methods := #[]
  instanceTypes := #[]
  staticTypes := #[]
  resolved := Array.replicate 8 none
  statics := none }

def pool5 : Array CpInfo := pool [(1, u "java/io/Serializable"), (0, .class_ 1), (0, u "java/lang/Object"), (0, .class_ 3)] 3

/-- java/io/Serializable -/
def k5 : Class := { plain "java/io/Serializable" (some 0) with
  accessFlags := 1537
  interfaces := #[]
  cf := some (fileOf pool5 2 #[] #[] 1537 4 #[] #[])
  fields := #[]
  methods := #[]
  instanceTypes := #[]
  staticTypes := #[]
  resolved := Array.replicate 8 none
  statics := none }

/-- the primitive byte -/
def k6 : Class := { plain "byte" none with kind := .primitive 'B', accessFlags := 0x411 }
/-- [B -/
def k7 : Class := { plain "[B" (some 0) with kind := .array 6 .byte, interfaces := #[4, 5], accessFlags := 1041 }

/-- the primitive int -/
def k8 : Class := { plain "int" none with kind := .primitive 'I', accessFlags := 0x411 }
/-- [I -/
def k9 : Class := { plain "[I" (some 0) with kind := .array 8 .int, interfaces := #[4, 5], accessFlags := 1041 }

def heap : Heap := #[{ cls := 3, slots := #[.ref 1, .int 0, .int 0], vm := .statics 3 },
  { cls := 7, slots := #[.int 0, .int 0, .int 0, .int 0, .int 0, .int 0, .int 0, .int 0, .int 0, .int 0, .int 0, .int 0, .int 0, .int 0, .int 0, .int 0, .int 0, .int 0, .int 0, .int 0, .int 0, .int 0, .int 0, .int 0, .int 0, .int 0, .int 0, .int 0, .int 0, .int 0, .int 0, .int 0, .int 0, .int 0, .int 0, .int 0, .int 0, .int 0, .int 0, .int 0, .int 0, .int 0, .int 0, .int 0, .int 0, .int 2, .int 2, .int 0, .int 2, .int 2, .int 2, .int 2, .int 2, .int 2, .int 2, .int 2, .int 2, .int 2, .int 3, .int 0, .int 0, .int 0, .int 0, .int 0, .int 0, .int 3, .int 3, .int 3, .int 3, .int 3, .int 3, .int 3, .int 3, .int 3, .int 3, .int 3, .int 3, .int 3, .int 3, .int 3, .int 3, .int 3, .int 3, .int 3, .int 3, .int 3, .int 3, .int 3, .int 3, .int 3, .int 3, .int 0, .int 0, .int 0, .int 0, .int 3, .int 0, .int 3, .int 3, .int 3, .int 3, .int 3, .int 3, .int 3, .int 3, .int 3, .int 3, .int 3, .int 3, .int 3, .int 3, .int 3, .int 3, .int 3, .int 3, .int 3, .int 3, .int 3, .int 3, .int 3, .int 3, .int 3, .int 3, .int 0, .int 0, .int 0, .int 0, .int 0], vm := .none }]
def classes : Array Class := #[k0, k1, k2, k3, k4, k5, k6, k7, k8, k9]
def interned : List (Array UInt16 × Addr) := []
def slotsUsed : Nat := 131
def theMethod : MethodId := ⟨1, 2⟩
def args0 : Array Value := #[.int 5, .int 7, .int 1]
def aboutOver (below : List Frame) : State where
  vm := { classes := classes, interned := interned.toArray }
  heap := heap
  slotsUsed := slotsUsed
  threads := #[{ frames := .invoking theMethod args0 :: below }]
def below0 : List Frame := [.native { method := ⟨0, 0⟩, args := #[] }]
def about1 : State := aboutOver below0
def p0 : Program := .bare "" "" ""
def e0 : Env := launch0.env 0 0 0
theorem w_frames : about1.frames = Frame.invoking theMethod args0 :: below0 := rfl
set_option maxRecDepth 65536 in
theorem w_args : argsFit about1.vm theMethod args0 = true := by decide +kernel
set_option maxRecDepth 65536 in
theorem w_heap : heapFits about1 = true := by decide +kernel
set_option maxRecDepth 65536 in
theorem w_runnable : about1.curStatus? = some .runnable := by decide +kernel
set_option maxRecDepth 65536 in
theorem w_alone : about1.alone = true := by decide +kernel
set_option maxRecDepth 65536 in
theorem w_named : about1.methodNamed? x = some theMethod := by decide +kernel
set_option maxRecDepth 65536 in
theorem w_hears : about1.hears theMethod below0 = true := by decide +kernel
set_option maxRecDepth 65536 in
theorem w_ripe : about1.ripe theMethod args0 below0 = true := by decide +kernel
theorem w_running : about1.status = .running := rfl
set_option maxRecDepth 65536 in
theorem w_room : about1.hasRoom e0.platform room_1 = true :=
  launch0.hasRoom_least _ room_1 (by decide +kernel) (by decide +kernel) (by decide +kernel) (by decide +kernel) (by decide +kernel) (by decide +kernel)
theorem allAtoms_all (ts : List Jvm.Cond) (a : Array Jvm.Value) (st : Jvm.State) : (allAtoms ts).before a st = ts.all (fun c => c.before a st) := by
  induction ts with
  | nil => rfl
  | cons c t ih =>
    show (Jvm.Cond.and c (allAtoms t)).before a st = _
    rw [Jvm.Cond.before_and, ih, List.all_cons]
def words1 : List Jvm.Cond := Jvm.Cond.code x code maxLocals ret :: tables_1
/-- a 'code' word, met by the world's own term for the bytes: nothing is compared byte by byte -/
theorem code_word {y : MethodName} {bytes : ByteArray} {mx : Nat} {rt : Option FieldType} {a : Array Value} {s : State} {m : MethodId} {meth : Method} {c : Code} (h1 : s.methodNamed? y = some m) (h2 : s.vm.method? m = some meth) (h3 : meth.code = some c) (h4 : c.code = bytes)
    (h5 : (c.maxLocals == mx && c.exceptionTable.isEmpty && decide (c.maxStack ≤ mostOperands) && decide (meth.sig.returnType = rt) && !meth.locks && decide (parseMethodDescriptor y.desc = some meth.sig)) = true) : (Jvm.Cond.code y bytes mx rt).before a s = true := by
  simp only [Bool.and_eq_true, beq_iff_eq, Bool.not_eq_true', decide_eq_true_eq] at h5
  obtain ⟨⟨⟨⟨⟨g1, g2⟩, g3⟩, g4⟩, g5⟩, g6⟩ := h5
  simp [Cond.before, Cond.holds, Cond.value, h1, h2, h3, h4, g1, g2, g3, g4, g5, g6]
def isCode : Jvm.Cond → Bool
  | .code _ _ _ _ => true
  | _ => false
theorem all_split {L : List Jvm.Cond} {P : Jvm.Cond → Bool} (h1 : L.all (fun c => isCode c || P c) = true) (h2 : ∀ c ∈ L.filter isCode, P c = true) : L.all P = true := by
  refine List.all_eq_true.mpr fun c hc => ?_
  have h := List.all_eq_true.mp h1 c hc
  rcases Bool.eq_false_or_eq_true (isCode c) with hi | hi
  · exact h2 c (List.mem_filter.mpr ⟨hc, hi⟩)
  · simpa [hi] using h
set_option maxRecDepth 65536 in
theorem w_c0 : (Jvm.Cond.code x code maxLocals ret).before args0 about1 = true := code_word (m := ⟨1, 2⟩) (meth := k1m2) (c := k1c2) (by decide +kernel) rfl rfl rfl (by decide +kernel)
set_option maxRecDepth 65536 in
theorem w_c1 : (Jvm.Cond.code ({ cls := "java/lang/Math", name := "min", desc := "(II)I" } : Jvm.MethodName) jdk_29_method_69_code (2 : Nat) (Option.some Jvm.ClassFile.FieldType.int)).before args0 about1 = true := code_word (m := ⟨2, 2⟩) (meth := k2m2) (c := k2c2) (by decide +kernel) rfl rfl rfl (by decide +kernel)
set_option maxRecDepth 65536 in
theorem w_c2 : (Jvm.Cond.code ({ cls := "java/lang/Math", name := "max", desc := "(II)I" } : Jvm.MethodName) jdk_29_method_65_code (2 : Nat) (Option.some Jvm.ClassFile.FieldType.int)).before args0 about1 = true := code_word (m := ⟨2, 1⟩) (meth := k2m1) (c := k2c1) (by decide +kernel) rfl rfl rfl (by decide +kernel)
set_option maxRecDepth 65536 in
theorem w_c3 : (Jvm.Cond.code ({ cls := "com/example/cartulary/cartulary/XmlNames", name := "isNameStart", desc := "(I)Z" } : Jvm.MethodName) prog_169_method_2_code (1 : Nat) (Option.some Jvm.ClassFile.FieldType.boolean)).before args0 about1 = true := code_word (m := ⟨3, 1⟩) (meth := k3m1) (c := k3c1) (by decide +kernel) rfl rfl rfl (by decide +kernel)
set_option maxRecDepth 65536 in
theorem w_c4 : (Jvm.Cond.code ({ cls := "com/example/cartulary/cartulary/XmlNamesIsNameStartPinLaw", name := "reference", desc := "(I)Z" } : Jvm.MethodName) method_2_code (2 : Nat) (Option.some Jvm.ClassFile.FieldType.boolean)).before args0 about1 = true := code_word (m := ⟨1, 1⟩) (meth := k1m1) (c := k1c1) (by decide +kernel) rfl rfl rfl (by decide +kernel)
def codes1 : List Jvm.Cond := [Jvm.Cond.code x code maxLocals ret, Jvm.Cond.code ({ cls := "java/lang/Math", name := "min", desc := "(II)I" } : Jvm.MethodName) jdk_29_method_69_code (2 : Nat) (Option.some Jvm.ClassFile.FieldType.int), Jvm.Cond.code ({ cls := "java/lang/Math", name := "max", desc := "(II)I" } : Jvm.MethodName) jdk_29_method_65_code (2 : Nat) (Option.some Jvm.ClassFile.FieldType.int), Jvm.Cond.code ({ cls := "com/example/cartulary/cartulary/XmlNames", name := "isNameStart", desc := "(I)Z" } : Jvm.MethodName) prog_169_method_2_code (1 : Nat) (Option.some Jvm.ClassFile.FieldType.boolean), Jvm.Cond.code ({ cls := "com/example/cartulary/cartulary/XmlNamesIsNameStartPinLaw", name := "reference", desc := "(I)Z" } : Jvm.MethodName) method_2_code (2 : Nat) (Option.some Jvm.ClassFile.FieldType.boolean)]
set_option maxRecDepth 65536 in
theorem codes_eq : words1.filter isCode = codes1 := rfl
theorem w_codes : ∀ c ∈ words1.filter isCode, c.before args0 about1 = true := by
  rw [codes_eq]
  intro c hc
  simp only [codes1, List.mem_cons, List.not_mem_nil, or_false] at hc
  rcases hc with rfl | rfl | rfl | rfl | rfl
  · exact w_c0
  · exact w_c1
  · exact w_c2
  · exact w_c3
  · exact w_c4
set_option maxRecDepth 65536 in
theorem w_t1 : (words1.take 24).all (fun c => isCode c || c.before args0 about1) = true := by decide +kernel
set_option maxRecDepth 65536 in
theorem w_t2 : (words1.drop 24).all (fun c => isCode c || c.before args0 about1) = true := by decide +kernel
theorem w_tables : (allAtoms (Jvm.Cond.code x code maxLocals ret :: tables_1)).before args0 about1 = true := by
  rw [allAtoms_all]
  show words1.all (fun c => c.before args0 about1) = true
  refine all_split ?_ w_codes
  rw [← List.take_append_drop 24 words1, List.all_append, w_t1, w_t2]
  rfl
set_option maxRecDepth 65536 in
theorem w_case : (Jvm.Cond.and given_1 narrow_1).before args0 about1 = true := by decide +kernel
theorem w_applies : (headSpec (Jvm.Cond.code x code maxLocals ret :: tables_1) room_1).applies x e0.platform about1 = true :=
  (Spec.applies_iff w_frames).mpr ⟨w_running, w_runnable, w_alone, w_named, w_hears, w_ripe, w_room, w_tables⟩
theorem atStart : AtStart classFile x code maxLocals ret World_1 tables_1 room_1 Calls_1 rest_1 Pre_1 launch0 p0 e0 about1 theMethod args0 below0 :=
  ⟨lists_1, trivial, launch0.admits_env _ _ _, launch0.least_env, fairChoices_fair.cas, fairChoices_fair.clock, w_frames, w_args, w_heap, w_applies, trivial, trivial, w_case⟩
end start1
theorem witness_1 : WitnessClaimed_1 := ⟨start1.p0, start1.e0, start1.about1, start1.theMethod, start1.args0, start1.below0, start1.atStart⟩
end Jvm.Pilot.@@N@@
