import JvmDerived
import JvmDerived.Pilot.@@N@@Statement
import JvmDerived.Pilot.@@N@@Code
set_option linter.unusedVariables false
set_option linter.unusedSimpArgs false
namespace Jvm.Pilot.@@N@@
open Jvm Jvm.ClassFile Sem Op Lib Jvm.Free Jvm.Stand Jvm.LawKit Jvm.RoadKit Bundle Jvm.Pilot.@@N@@.Jvm.D
section OwnKit
variable {p : Program} {l : Launch} {e : Env} {R : Room} {s : State} {m : MethodId} {args : Array Value} {below : List Frame} {meth : Method} {c : Code} {T : State} {locs : List Loc} {cells slots : Nat} {Z : State} {a0 : Array Value} {h : Heap}
/-- from U the invocation ends, returns v, and Q holds of v, the heap and the written places -/
def OGo (p : Program) (e : Env) (below : List Frame) (s : State) (R : Room) (Q : Option Value → Heap → List Loc → Prop) (U : State) : Prop :=
  ∃ s₂ o, Steps p.tables e below U s₂ ∧ s₂.status = .running ∧ Ended s₂ below o ∧ ∃ v L, o = .returned v ∧ Q v s₂.heap L ∧ FrameEnd s o s₂ L R.cells R.slots
variable {Q : Option Value → Heap → List Loc → Prop}
theorem own_st {A B : State} (hs : ∀ t, Steps p.tables e below A t → Steps p.tables e below B t) (k : OGo p e below s R Q A) : OGo p e below s R Q B := by
  obtain ⟨t, o, h1, h2⟩ := k
  exact ⟨t, o, hs t h1, h2⟩
theorem own_ret {v : Option Value} {U : State} (X : Stand p l e R s m args below meth c T locs cells slots) (hlk : meth.locks = false) (hv : meth.sig.returnType = none → v = none) (hc : cells ≤ R.cells) (hs : slots ≤ R.slots) (hq : Q v T.heap locs)
    (st : ∀ fs, (∀ (f : JFrame) (acts : List Action), f.method = m → f.locked = none → f.entered = [] → (doReturn e (T.setTop f) acts v).1 = T.setFrames fs) → Steps p.tables e below U (T.setFrames fs)) : OGo p e below s R Q U := by
  obtain ⟨fs, hr, hrun, hended, hW, hsame⟩ := X.leave (v := v) hv hlk
  exact ⟨_, _, st fs hr, hrun, hended, v, locs, rfl, hq, ⟨_, rfl⟩, hW, hsame.mono hc hs⟩
theorem own_retV (X : Stand p l e R s m args below meth c T locs cells slots) (hx : p.tables.exec = Jvm.exec) (hlk : meth.locks = false) {pc : Nat} {Ls : Array Slot} (hret : meth.sig.returnType = none) (hd : decode c.code pc = .ok (.return_, 1)) (hc : cells ≤ R.cells) (hs : slots ≤ R.slots) (hq : Q none T.heap locs) :
    OGo p e below s R Q (T.setTop (mkF m pc Ls [])) :=
  own_ret X hlk (fun _ => rfl) hc hs hq fun fs hr => X.returnOut hx hret hd hr
theorem own_retN (X : Stand p l e R s m args below meth c T locs cells slots) (hx : p.tables.exec = Jvm.exec) (hlk : meth.locks = false) {pc : Nat} {Ls : Array Slot} {z : Int32} {t : FieldType} {rest : List Value} (hret : meth.sig.returnType = some t) (ht : t = .boolean ∨ t = .byte ∨ t = .char ∨ t = .short)
    (hd : decode c.code pc = .ok (.ireturn, 1)) (hc : cells ≤ R.cells) (hs : slots ≤ R.slots) (hq : Q (some (.int (nar t z))) T.heap locs) : OGo p e below s R Q (T.setTop (mkF m pc Ls (.int z :: rest))) :=
  own_ret X hlk (fun q => by rw [hret] at q; cases q) hc hs hq fun fs hr => retN X hx hret ht hd hr
theorem own_retI (X : Stand p l e R s m args below meth c T locs cells slots) (hx : p.tables.exec = Jvm.exec) (hlk : meth.locks = false) {pc : Nat} {Ls : Array Slot} {z : Int32} {rest : List Value} (hret : meth.sig.returnType = some .int)
    (hd : decode c.code pc = .ok (.ireturn, 1)) (hc : cells ≤ R.cells) (hs : slots ≤ R.slots) (hq : Q (some (.int z)) T.heap locs) : OGo p e below s R Q (T.setTop (mkF m pc Ls (.int z :: rest))) :=
  own_ret X hlk (fun q => by rw [hret] at q; cases q) hc hs hq fun fs hr => by
    have hm' : T.vm.method? m = some meth := X.method'
    have hn : narrow .int (.int z) = .int z := rfl
    show Steps p.tables e below (T.setTop { method := m, pc := pc, locals := Ls, stack := _ :: rest, locked := none }) _
    jvm_step X.here [X.here.top, hx, hd, hm', hret, hn]
    first | (intro acts; rw [hr _ acts rfl rfl rfl]) | rw [hr _ _ rfl rfl rfl]
    exact Steps.refl _
theorem own_retJ (X : Stand p l e R s m args below meth c T locs cells slots) (hx : p.tables.exec = Jvm.exec) (hlk : meth.locks = false) {pc : Nat} {Ls : Array Slot} {z : Int64} {rest : List Value} (hret : meth.sig.returnType = some .long)
    (hd : decode c.code pc = .ok (.lreturn, 1)) (hc : cells ≤ R.cells) (hs : slots ≤ R.slots) (hq : Q (some (.long z)) T.heap locs) : OGo p e below s R Q (T.setTop (mkF m pc Ls (.long z :: rest))) :=
  own_ret X hlk (fun q => by rw [hret] at q; cases q) hc hs hq fun fs hr => by
    show Steps p.tables e below (T.setTop { method := m, pc := pc, locals := Ls, stack := _ :: rest, locked := none }) _
    jvm_step X.here [X.here.top, hx, hd, X.method', hret, narrow]
    first | (intro acts; rw [hr _ acts rfl rfl rfl]) | rw [hr _ _ rfl rfl rfl]
    exact Steps.refl _
theorem own_retA (X : Stand p l e R s m args below meth c T locs cells slots) (hx : p.tables.exec = Jvm.exec) (hlk : meth.locks = false) {pc : Nat} {Ls : Array Slot} {z : Value} {rest : List Value} {t : FieldType} (hret : meth.sig.returnType = some t) (hz : z.isRef = true) (ht : t.isReference = true)
    (hd : decode c.code pc = .ok (.areturn, 1)) (hc : cells ≤ R.cells) (hs : slots ≤ R.slots) (hq : Q (some z) T.heap locs) : OGo p e below s R Q (T.setTop (mkF m pc Ls (z :: rest))) :=
  own_ret X hlk (fun q => by rw [hret] at q; cases q) hc hs hq fun fs hr => by
    show Steps p.tables e below (T.setTop { method := m, pc := pc, locals := Ls, stack := _ :: rest, locked := none }) _
    jvm_step X.here [X.here.top, hx, hd, X.method', hret, hz, ht]
    first | (intro acts; rw [hr _ acts rfl rfl rfl]) | rw [hr _ _ rfl rfl rfl]
    exact Steps.refl _
/-- the contract of a body at the arguments 'as' and the heap h0 -/
abbrev OMet (l : Launch) (Z : State) (y : MethodName) (bytes : ByteArray) (ml : Nat) (rt : Option FieldType) (ws : List Jvm.Cond) (R : Room) (as : Array Value) (h0 : Heap) (Q : Option Value → Heap → List Loc → Prop) : Prop :=
  MetFree l y (head1 (Jvm.Cond.code y bytes ml rt :: ws) R) (fun a U => a = as ∧ Z.Warmed39 U.vm ∧ U.heap = h0) (fun _ _ _ _ _ => True) (fun _ U o U' => ∃ v L, o = .returned v ∧ Q v U'.heap L ∧ FrameEnd U o U' L R.cells R.slots)
/-- .. of one that returns v and leaves everything -/
abbrev OPure (l : Launch) (Z : State) (y : MethodName) (bytes : ByteArray) (ml : Nat) (rt : Option FieldType) (ws : List Jvm.Cond) (R : Room) (as : Array Value) (h0 : Heap) (v : Option Value) : Prop :=
  OMet l Z y bytes ml rt ws R as h0 (fun v' h' L => v' = v ∧ L = [] ∧ h' = h0)
theorem own_body {y : MethodName} {bytes : ByteArray} {ml : Nat} {rt : Option FieldType} {ws : List Jvm.Cond} {as : Array Value} {h0 : Heap} {L0 : Array Slot} (hp : plainFor y = true) (ef : ∀ m, entryFrame m as ml = mkF m 0 L0 [])
    (body : ∀ p e s m below meth c T, p.tables.exec = Jvm.exec → c.code = bytes → c.maxLocals = ml → s.vm.findClass y.cls = some m.cls → meth.name = y.name → meth.sig.returnType = rt → meth.locks = false → Z.Warmed39 s.vm →
      Stand p l e R s m as below meth c T [] 0 0 → T.heap = h0 → OGo p e below s R Q (T.setTop (mkF m 0 L0 []))) : OMet l Z y bytes ml rt ws R as h0 Q := by
  refine MetFree.of_bodySF hp hisR ?_
  intro p e s m args below meth c s₁ Bd hml0 hP hK
  obtain ⟨rfl, hZ, hh⟩ := hP
  have X0 : Stand p l e R s m _ below meth c s₁ [] 0 0 := Stand.of_body Bd
  obtain ⟨t, o, h1, h2⟩ := body p e s m below meth c s₁ Bd.exec Bd.bytes hml0 (findClass_of_methodNamed Bd.named) (name_of_methodNamed Bd.named Bd.method).1 Bd.returns Bd.notSynchronized hZ X0 (by rw [← hh, Bd.state]; rfl)
  exact ⟨t, o, castTop (ef m) h1, h2⟩
variable {own : String} {index : Nat} {y z : MethodName} {bytes : ByteArray} {ml W : Nat} {rt : Option FieldType} {rm : Room} {as : Array Value}
theorem own_callS (X : Stand p l e R s m args below meth c T locs cells slots) (hx : p.tables.exec = Jvm.exec) (hZ : Z.Warmed39 s.vm) (hown : s.vm.findClass own = some m.cls)
    (w1 : (Jvm.Cond.methodLink own index y).before a0 Z = true) (w2 : (Jvm.Cond.static y).before a0 Z = true) (w3 : (Jvm.Cond.initialized y.cls).before a0 Z = true) (w4 : (Jvm.Cond.code y bytes ml rt).before a0 Z = true)
    (hy : y.cls ≠ "java/lang/invoke/MethodHandle" ∧ y.cls ≠ "java/lang/invoke/VarHandle") (hM : OMet l Z y bytes ml rt [] rm as h Q) (hf : rm.frames + 1 ≤ R.frames) (hl : W + (ml + 11) + rm.locals ≤ R.locals)
    {g : JFrame} (hg : g.method = m) (hsz : g.locals.size = c.maxLocals) {argsL rest : List Value} (hlen : ∀ sig, parseMethodDescriptor y.desc = some sig → argsL.length = sig.parameters.length) (hstack : g.stack = argsL.reverse ++ rest)
    (hW : 2 * g.monitorRoom + (rest.map fun v => v.category).sum ≤ W) (hd : decode c.code g.pc = .ok (.invokestatic index, 3)) (ha : argsL.toArray = as) (eT : T.heap = h) (hc : cells + rm.cells ≤ R.cells) (hs : slots + rm.slots ≤ R.slots) :
    ∃ v T' L, Stand p l e R s m args below meth c T' (locs ++ L) (cells + rm.cells) (slots + rm.slots) ∧ Q v T'.heap L ∧ ∀ t, Steps p.tables e below (T'.setTop { g with pc := g.pc + 3, stack := v.toList ++ rest }) t → Steps p.tables e below (T.setTop g) t := by
  obtain ⟨v, _, ⟨T3, L3, k3, n3⟩, -, X3, ⟨Lc3, hQ3, l3, y3, z3⟩, st3⟩ := Jvm.LawKit.callS X hx (y := y) hown (mvT hZ w1) (mvT hZ w2) (mvT hZ w3) (mvT hZ w4) hy (backOf (W := W) hM hZ w4 w3 hf hl) hg hsz hlen hstack hW hd (fun _ _ => ⟨ha, eT, hc, hs⟩)
  dsimp only [Pt.U, Pt.locs, Pt.cells, Pt.slots] at X3 l3 y3 z3 st3 hQ3
  subst l3 y3 z3
  exact ⟨v, T3, Lc3, X3, hQ3, st3⟩
theorem own_callSP {v0 : Option Value} (X : Stand p l e R s m args below meth c T locs cells slots) (hx : p.tables.exec = Jvm.exec) (hZ : Z.Warmed39 s.vm) (hown : s.vm.findClass own = some m.cls)
    (w1 : (Jvm.Cond.methodLink own index y).before a0 Z = true) (w2 : (Jvm.Cond.static y).before a0 Z = true) (w3 : (Jvm.Cond.initialized y.cls).before a0 Z = true) (w4 : (Jvm.Cond.code y bytes ml rt).before a0 Z = true)
    (hy : y.cls ≠ "java/lang/invoke/MethodHandle" ∧ y.cls ≠ "java/lang/invoke/VarHandle") (hM : OPure l Z y bytes ml rt [] rm as h v0) (hf : rm.frames + 1 ≤ R.frames) (hl : W + (ml + 11) + rm.locals ≤ R.locals)
    {g : JFrame} (hg : g.method = m) (hsz : g.locals.size = c.maxLocals) {argsL rest : List Value} (hlen : ∀ sig, parseMethodDescriptor y.desc = some sig → argsL.length = sig.parameters.length) (hstack : g.stack = argsL.reverse ++ rest)
    (hW : 2 * g.monitorRoom + (rest.map fun v => v.category).sum ≤ W) (hd : decode c.code g.pc = .ok (.invokestatic index, 3)) (ha : argsL.toArray = as) (eT : T.heap = h) (hc : cells + rm.cells ≤ R.cells) (hs : slots + rm.slots ≤ R.slots) :
    ∃ T', Stand p l e R s m args below meth c T' locs (cells + rm.cells) (slots + rm.slots) ∧ T'.heap = h ∧ ∀ t, Steps p.tables e below (T'.setTop { g with pc := g.pc + 3, stack := v0.toList ++ rest }) t → Steps p.tables e below (T.setTop g) t := by
  obtain ⟨v, T', L, X', ⟨rfl, rfl, e'⟩, st⟩ := own_callS X hx hZ hown w1 w2 w3 w4 hy hM hf hl hg hsz hlen hstack hW hd ha eT hc hs
  rw [List.append_nil] at X'
  exact ⟨T', X', e', st⟩
theorem own_callI (X : Stand p l e R s m args below meth c T locs cells slots) (hx : p.tables.exec = Jvm.exec) (hZ : Z.Warmed39 s.vm) (hy1 : y.name = "<init>") (hown : s.vm.findClass own = some m.cls)
    (w1 : (Jvm.Cond.methodLink own index y).before a0 Z = true) (w2 : (Jvm.Cond.instanceMethod y).before a0 Z = true) (w4 : (Jvm.Cond.code y bytes ml none).before a0 Z = true) (w3 : (Jvm.Cond.initialized y.cls).before a0 Z = true)
    (hy : y.cls ≠ "java/lang/invoke/MethodHandle" ∧ y.cls ≠ "java/lang/invoke/VarHandle") (hM : OMet l Z y bytes ml none [] rm as h Q) (hf : rm.frames + 1 ≤ R.frames) (hl : W + (ml + 11) + rm.locals ≤ R.locals) {a : Addr}
    {g : JFrame} (hg : g.method = m) (hsz : g.locals.size = c.maxLocals) {argsL rest : List Value} (hlen : ∀ sig, parseMethodDescriptor y.desc = some sig → argsL.length = sig.parameters.length) (hstack : g.stack = argsL.reverse ++ .ref a :: rest)
    (hW : 2 * g.monitorRoom + (rest.map fun v => v.category).sum ≤ W) (hd : decode c.code g.pc = .ok (.invokespecial index, 3)) (ha : (.ref a :: argsL).toArray = as) (eT : T.heap = h) (hc : cells + rm.cells ≤ R.cells) (hs : slots + rm.slots ≤ R.slots) :
    ∃ v T' L, Stand p l e R s m args below meth c T' (locs ++ L) (cells + rm.cells) (slots + rm.slots) ∧ Q v T'.heap L ∧ ∀ t, Steps p.tables e below (T'.setTop { g with pc := g.pc + 3, stack := v.toList ++ rest }) t → Steps p.tables e below (T.setTop g) t := by
  obtain ⟨v, _, ⟨T3, L3, k3, n3⟩, -, X3, ⟨Lc3, hQ3, l3, y3, z3⟩, st3⟩ := X.specialBack hx (y := y) hy1 hown (mvT hZ w1) (mvT hZ w2) (mvT hZ w4) hy (backOf (W := W) hM hZ w4 w3 hf hl) hg hsz (Steps.refl _) (a := a) hlen hstack hW hd (fun _ _ => ⟨ha, eT, hc, hs⟩)
  dsimp only [Pt.U, Pt.locs, Pt.cells, Pt.slots] at X3 l3 y3 z3 st3 hQ3
  subst l3 y3 z3
  exact ⟨v, T3, Lc3, X3, hQ3, fun t k => st3.trans k⟩
theorem own_callIP {v0 : Option Value} (X : Stand p l e R s m args below meth c T locs cells slots) (hx : p.tables.exec = Jvm.exec) (hZ : Z.Warmed39 s.vm) (hy1 : y.name = "<init>") (hown : s.vm.findClass own = some m.cls)
    (w1 : (Jvm.Cond.methodLink own index y).before a0 Z = true) (w2 : (Jvm.Cond.instanceMethod y).before a0 Z = true) (w4 : (Jvm.Cond.code y bytes ml none).before a0 Z = true) (w3 : (Jvm.Cond.initialized y.cls).before a0 Z = true)
    (hy : y.cls ≠ "java/lang/invoke/MethodHandle" ∧ y.cls ≠ "java/lang/invoke/VarHandle") (hM : OPure l Z y bytes ml none [] rm as h v0) (hf : rm.frames + 1 ≤ R.frames) (hl : W + (ml + 11) + rm.locals ≤ R.locals) {a : Addr}
    {g : JFrame} (hg : g.method = m) (hsz : g.locals.size = c.maxLocals) {argsL rest : List Value} (hlen : ∀ sig, parseMethodDescriptor y.desc = some sig → argsL.length = sig.parameters.length) (hstack : g.stack = argsL.reverse ++ .ref a :: rest)
    (hW : 2 * g.monitorRoom + (rest.map fun v => v.category).sum ≤ W) (hd : decode c.code g.pc = .ok (.invokespecial index, 3)) (ha : (.ref a :: argsL).toArray = as) (eT : T.heap = h) (hc : cells + rm.cells ≤ R.cells) (hs : slots + rm.slots ≤ R.slots) :
    ∃ T', Stand p l e R s m args below meth c T' locs (cells + rm.cells) (slots + rm.slots) ∧ T'.heap = h ∧ ∀ t, Steps p.tables e below (T'.setTop { g with pc := g.pc + 3, stack := v0.toList ++ rest }) t → Steps p.tables e below (T.setTop g) t := by
  obtain ⟨v, T', L, X', ⟨rfl, rfl, e'⟩, st⟩ := own_callI X hx hZ hy1 hown w1 w2 w4 w3 hy hM hf hl hg hsz hlen hstack hW hd ha eT hc hs
  rw [List.append_nil] at X'
  exact ⟨T', X', e', st⟩
theorem own_callV {C : String} (X : Stand p l e R s m args below meth c T locs cells slots) (hx : p.tables.exec = Jvm.exec) (hZ : Z.Warmed39 s.vm) (hown : s.vm.findClass own = some m.cls)
    (w1 : (Jvm.Cond.methodLink own index y).before a0 Z = true) (w2 : (Jvm.Cond.declares y).before a0 Z = true) (hnf : NotFace s y) (ws : (Jvm.Cond.selects C y z).before a0 Z = true) (wi : (Jvm.Cond.instanceMethod z).before a0 Z = true)
    (w4 : (Jvm.Cond.code z bytes ml rt).before a0 Z = true) (w3 : (Jvm.Cond.initialized z.cls).before a0 Z = true)
    (hy : y.cls ≠ "java/lang/invoke/MethodHandle" ∧ y.cls ≠ "java/lang/invoke/VarHandle") (hM : OMet l Z z bytes ml rt [] rm as h Q) (hf : rm.frames + 1 ≤ R.frames) (hl : W + (ml + 11) + rm.locals ≤ R.locals) {a : Addr} (E : Exa Z h a C)
    {g : JFrame} (hg : g.method = m) (hsz : g.locals.size = c.maxLocals) {argsL rest : List Value} (hlen : ∀ sig, parseMethodDescriptor y.desc = some sig → argsL.length = sig.parameters.length) (hstack : g.stack = argsL.reverse ++ .ref a :: rest)
    (hW : 2 * g.monitorRoom + (rest.map fun v => v.category).sum ≤ W) (hd : decode c.code g.pc = .ok (.invokevirtual index, 3)) (ha : (.ref a :: argsL).toArray = as) (eT : T.heap = h) (hc : cells + rm.cells ≤ R.cells) (hs : slots + rm.slots ≤ R.slots) :
    ∃ v T' L, Stand p l e R s m args below meth c T' (locs ++ L) (cells + rm.cells) (slots + rm.slots) ∧ Q v T'.heap L ∧ ∀ t, Steps p.tables e below (T'.setTop { g with pc := g.pc + 3, stack := v.toList ++ rest }) t → Steps p.tables e below (T.setTop g) t := by
  obtain ⟨cq, kq, qa, qb, qc⟩ := isOf hZ eT E
  obtain ⟨v, _, ⟨T3, L3, k3, n3⟩, -, X3, ⟨Lc3, hQ3, l3, y3, z3⟩, st3⟩ := X.virtualBack hx (y := y) (z := z) hown (mvT hZ w1) (mvT hZ w2) hnf (mvT hZ ws) (mvT hZ wi) hy (backOf (W := W) hM hZ w4 w3 hf hl) qa qc hg hsz (Steps.refl _) hlen hstack hW hd (fun _ _ => ⟨ha, eT, hc, hs⟩)
  dsimp only [Pt.U, Pt.locs, Pt.cells, Pt.slots] at X3 l3 y3 z3 st3 hQ3
  subst l3 y3 z3
  exact ⟨v, T3, Lc3, X3, hQ3, fun t k => st3.trans k⟩
theorem own_callVP {C : String} {v0 : Option Value} (X : Stand p l e R s m args below meth c T locs cells slots) (hx : p.tables.exec = Jvm.exec) (hZ : Z.Warmed39 s.vm) (hown : s.vm.findClass own = some m.cls)
    (w1 : (Jvm.Cond.methodLink own index y).before a0 Z = true) (w2 : (Jvm.Cond.declares y).before a0 Z = true) (hnf : NotFace s y) (ws : (Jvm.Cond.selects C y z).before a0 Z = true) (wi : (Jvm.Cond.instanceMethod z).before a0 Z = true)
    (w4 : (Jvm.Cond.code z bytes ml rt).before a0 Z = true) (w3 : (Jvm.Cond.initialized z.cls).before a0 Z = true)
    (hy : y.cls ≠ "java/lang/invoke/MethodHandle" ∧ y.cls ≠ "java/lang/invoke/VarHandle") (hM : OPure l Z z bytes ml rt [] rm as h v0) (hf : rm.frames + 1 ≤ R.frames) (hl : W + (ml + 11) + rm.locals ≤ R.locals) {a : Addr} (E : Exa Z h a C)
    {g : JFrame} (hg : g.method = m) (hsz : g.locals.size = c.maxLocals) {argsL rest : List Value} (hlen : ∀ sig, parseMethodDescriptor y.desc = some sig → argsL.length = sig.parameters.length) (hstack : g.stack = argsL.reverse ++ .ref a :: rest)
    (hW : 2 * g.monitorRoom + (rest.map fun v => v.category).sum ≤ W) (hd : decode c.code g.pc = .ok (.invokevirtual index, 3)) (ha : (.ref a :: argsL).toArray = as) (eT : T.heap = h) (hc : cells + rm.cells ≤ R.cells) (hs : slots + rm.slots ≤ R.slots) :
    ∃ T', Stand p l e R s m args below meth c T' locs (cells + rm.cells) (slots + rm.slots) ∧ T'.heap = h ∧ ∀ t, Steps p.tables e below (T'.setTop { g with pc := g.pc + 3, stack := v0.toList ++ rest }) t → Steps p.tables e below (T.setTop g) t := by
  obtain ⟨v, T', L, X', ⟨rfl, rfl, e'⟩, st⟩ := own_callV X hx hZ hown w1 w2 hnf ws wi w4 w3 hy hM hf hl E hg hsz hlen hstack hW hd ha eT hc hs
  rw [List.append_nil] at X'
  exact ⟨T', X', e', st⟩
theorem own_callR (X : Stand p l e R s m args below meth c T locs cells slots) (hx : p.tables.exec = Jvm.exec) (hZ : Z.Warmed39 s.vm) (hown : s.vm.findClass own = some m.cls)
    (w1 : (Jvm.Cond.methodLink own index y).before a0 Z = true) (w2 : (Jvm.Cond.instanceMethod y).before a0 Z = true) (ws : (Jvm.Cond.selects y.cls y y).before a0 Z = true) (wp : (Jvm.Cond.privateMethod y).before a0 Z = true)
    (w4 : (Jvm.Cond.code y bytes ml rt).before a0 Z = true) (w3 : (Jvm.Cond.initialized y.cls).before a0 Z = true)
    (hy : y.cls ≠ "java/lang/invoke/MethodHandle" ∧ y.cls ≠ "java/lang/invoke/VarHandle") (hM : OMet l Z y bytes ml rt [] rm as h Q) (hf : rm.frames + 1 ≤ R.frames) (hl : W + (ml + 11) + rm.locals ≤ R.locals) {a : Addr} {C : String} (E : Exa Z h a C)
    {g : JFrame} (hg : g.method = m) (hsz : g.locals.size = c.maxLocals) {argsL rest : List Value} (hlen : ∀ sig, parseMethodDescriptor y.desc = some sig → argsL.length = sig.parameters.length) (hstack : g.stack = argsL.reverse ++ .ref a :: rest)
    (hW : 2 * g.monitorRoom + (rest.map fun v => v.category).sum ≤ W) (hd : decode c.code g.pc = .ok (.invokevirtual index, 3)) (ha : (.ref a :: argsL).toArray = as) (eT : T.heap = h) (hc : cells + rm.cells ≤ R.cells) (hs : slots + rm.slots ≤ R.slots) :
    ∃ v T' L, Stand p l e R s m args below meth c T' (locs ++ L) (cells + rm.cells) (slots + rm.slots) ∧ Q v T'.heap L ∧ ∀ t, Steps p.tables e below (T'.setTop { g with pc := g.pc + 3, stack := v.toList ++ rest }) t → Steps p.tables e below (T.setTop g) t := by
  obtain ⟨cq, qa, qb⟩ := E.cell
  obtain ⟨v, _, ⟨T3, L3, k3, n3⟩, -, X3, ⟨Lc3, hQ3, l3, y3, z3⟩, st3⟩ := X.privateBack hx (y := y) hown (mvT hZ w1) (mvT hZ w2) (mvT hZ ws) (Cond.privateMethod_at (mvP hZ wp (args := #[]))) (mvT hZ w4) hy (backOf (W := W) hM hZ w4 w3 hf hl) hg hsz (Steps.refl _) (a := a) (by rw [eT]; exact qa) qb hlen hstack hW hd (fun _ _ => ⟨ha, eT, hc, hs⟩)
  dsimp only [Pt.U, Pt.locs, Pt.cells, Pt.slots] at X3 l3 y3 z3 st3 hQ3
  subst l3 y3 z3
  exact ⟨v, T3, Lc3, X3, hQ3, fun t k => st3.trans k⟩
theorem own_callRP {v0 : Option Value} (X : Stand p l e R s m args below meth c T locs cells slots) (hx : p.tables.exec = Jvm.exec) (hZ : Z.Warmed39 s.vm) (hown : s.vm.findClass own = some m.cls)
    (w1 : (Jvm.Cond.methodLink own index y).before a0 Z = true) (w2 : (Jvm.Cond.instanceMethod y).before a0 Z = true) (ws : (Jvm.Cond.selects y.cls y y).before a0 Z = true) (wp : (Jvm.Cond.privateMethod y).before a0 Z = true)
    (w4 : (Jvm.Cond.code y bytes ml rt).before a0 Z = true) (w3 : (Jvm.Cond.initialized y.cls).before a0 Z = true)
    (hy : y.cls ≠ "java/lang/invoke/MethodHandle" ∧ y.cls ≠ "java/lang/invoke/VarHandle") (hM : OPure l Z y bytes ml rt [] rm as h v0) (hf : rm.frames + 1 ≤ R.frames) (hl : W + (ml + 11) + rm.locals ≤ R.locals) {a : Addr} {C : String} (E : Exa Z h a C)
    {g : JFrame} (hg : g.method = m) (hsz : g.locals.size = c.maxLocals) {argsL rest : List Value} (hlen : ∀ sig, parseMethodDescriptor y.desc = some sig → argsL.length = sig.parameters.length) (hstack : g.stack = argsL.reverse ++ .ref a :: rest)
    (hW : 2 * g.monitorRoom + (rest.map fun v => v.category).sum ≤ W) (hd : decode c.code g.pc = .ok (.invokevirtual index, 3)) (ha : (.ref a :: argsL).toArray = as) (eT : T.heap = h) (hc : cells + rm.cells ≤ R.cells) (hs : slots + rm.slots ≤ R.slots) :
    ∃ T', Stand p l e R s m args below meth c T' locs (cells + rm.cells) (slots + rm.slots) ∧ T'.heap = h ∧ ∀ t, Steps p.tables e below (T'.setTop { g with pc := g.pc + 3, stack := v0.toList ++ rest }) t → Steps p.tables e below (T.setTop g) t := by
  obtain ⟨v, T', L, X', ⟨rfl, rfl, e'⟩, st⟩ := own_callR X hx hZ hown w1 w2 ws wp w4 w3 hy hM hf hl E hg hsz hlen hstack hW hd ha eT hc hs
  rw [List.append_nil] at X'
  exact ⟨T', X', e', st⟩
/-- the array at a has n places; place j holds f j -/
def OAr (Z : State) (h : Heap) (a : Addr) (ty : FieldType) (n : Nat) (f : Nat → Value) : Prop := ∃ c : Cell, Arr Z h a c ty ∧ c.slots.size = n ∧ ∀ j, j < n → c.slots[j]? = some (f j)
section OwnArr
variable {h' : Heap} {a b : Addr} {ty : FieldType} {n sl : Nat} {f f' : Nat → Value} {v : Value} {k : ClassId} {i : Int32}
theorem OAr.lt (F : OAr Z h a ty n f) : a < h.size := by obtain ⟨c, A, -⟩ := F; exact A.lt
theorem OAr.ext (F : OAr Z h a ty n f) (E : Ext h h') : OAr Z h' a ty n f := by obtain ⟨c, A, r⟩ := F; exact ⟨c, A.ext E, r⟩
theorem OAr.other (F : OAr Z h a ty n f) (W : Wr h h' b sl v) (q : a ≠ b) : OAr Z h' a ty n f := by obtain ⟨c, A, r⟩ := F; exact ⟨c, A.other W q, r⟩
theorem OAr.keep {ws : List Addr} (F : OAr Z h a ty n f) (K : Keep h h' ws) (q : a ∉ ws) : OAr Z h' a ty n f := by obtain ⟨c, A, r⟩ := F; exact ⟨c, ⟨K.2.1 a c A.1 q, A.2⟩, r⟩
theorem OAr.cong (F : OAr Z h a ty n f) (q : ∀ j, j < n → f j = f' j) : OAr Z h a ty n f' := by obtain ⟨c, A, S, H⟩ := F; exact ⟨c, A, S, fun j hj => by rw [← q j hj]; exact H j hj⟩
theorem OAr.new (A : Arr Z h a (newA k ty i) ty) : OAr Z h a ty i.toNatClampNeg (fun _ => defaultValue ty) := ⟨_, A, sz_new _ _ _, fun j hj => by simp [newA, hj]⟩
theorem OAr.set {c : Cell} (A : Arr Z h a c ty) (S : c.slots.size = n) (H : ∀ j, j < n → c.slots[j]? = some (f j)) (W : Wr h h' a sl v) : OAr Z h' a ty n (fun j => if j = sl then v else f j) := by
  refine ⟨_, A.same W, by rw [sz_set]; exact S, fun j hj => ?_⟩
  by_cases q : j = sl
  · subst q
    simp [Cell.setSlot, S, hj]
  · simp only [q, if_false, Cell.setSlot]
    rw [Array.getElem?_setIfInBounds_ne (Ne.symm q)]
    exact H j hj
theorem own_in {c : Cell} (S : c.slots.size = n) (h0 : ¬ i < 0) (h1 : i.toNatClampNeg < n) : ¬ (i < 0 ∨ c.slots.size ≤ i.toNatClampNeg) := by
  rintro (q | q)
  · exact h0 q
  · omega
/-- the clone of an array -/
theorem own_clone {own ad : String} {index : Nat} (X : Stand p l e R s m args below meth c T locs cells slots) (hx : p.tables.exec = Jvm.exec) (hZ : Z.Warmed39 s.vm) (hown : s.vm.findClass own = some m.cls)
    (w1 : (Jvm.Cond.methodLink own index ⟨ad, "clone", "()Ljava/lang/Object;"⟩).before a0 Z = true) (w2 : (Jvm.Cond.sameMethod ad "java/lang/Object" "clone" "()Ljava/lang/Object;").before a0 Z = true) (w3 : (Jvm.Cond.native ⟨"java/lang/Object", "clone", "()Ljava/lang/Object;"⟩).before a0 Z = true)
    (w4 : (Jvm.Cond.instanceMethod ⟨"java/lang/Object", "clone", "()Ljava/lang/Object;"⟩).before a0 Z = true) (w5 : (Jvm.Cond.selects ad ⟨ad, "clone", "()Ljava/lang/Object;"⟩ ⟨"java/lang/Object", "clone", "()Ljava/lang/Object;"⟩).before a0 Z = true) (w6 : (Jvm.Cond.castable ad "java/lang/Cloneable").before a0 Z = true)
    (eT : T.heap = h) (F : OAr Z h a ty n f) (E : Exa Z h a ad) (hfit : ∀ j, j < n → fits ty (f j) = true) {g : JFrame} (hg : g.method = m) (hsize : g.locals.size = c.maxLocals) {rest : List Value} (hst : g.stack = .ref a :: rest) (hd : decode c.code g.pc = .ok (.invokevirtual index, 3))
    (hf : 1 ≤ R.frames) {W : Nat} (hW : 2 * g.monitorRoom + (rest.map fun v => v.category).sum ≤ W) (hl : W + 14 ≤ R.locals) {cap : Nat} (hcap : n ≤ cap) (hc : cells + 1 ≤ R.cells) (hsl : slots + cap ≤ R.slots) :
    ∃ T' h', Stand p l e R s m args below meth c T' locs (cells + 1) (slots + cap) ∧ T'.heap = h' ∧ Ext h h' ∧ OAr Z h' h.size ty n f ∧ Exa Z h' h.size ad ∧
      ∀ target, Steps p.tables e below (T'.setTop { g with pc := g.pc + 3, stack := .ref h.size :: rest }) target → Steps p.tables e below (T.setTop g) target := by
  obtain ⟨cl, A, S, H⟩ := F
  have FC : FitC Z cl := fitC_of A fun i hi v hv => by rw [H i (S ▸ hi)] at hv; cases hv; exact hfit i (S ▸ hi)
  obtain ⟨T', h', X', e', ex, A', E', st⟩ := cloneA X hx hZ hown w1 w2 w3 w4 w5 w6 eT A E FC hg hsize hst hd hf hW hl (cap := cap) (by rw [S]; exact hcap) hc hsl
  exact ⟨T', h', X', e', ex, ⟨cloneOf cl, A', S, H⟩, E', st⟩
end OwnArr
theorem own_nat {i : Nat} (hi : i < 2 ^ 31) : (Int32.ofNat i).toNatClampNeg = i ∧ ¬ Int32.ofNat i < 0 ∧ (Int32.ofNat i).toInt = i := by
  have q : (Int32.ofNat i).toInt = i := Int32.toInt_ofNat_of_lt hi
  have z : (0 : Int32).toInt = 0 := by decide
  refine ⟨by rw [Int32.toNatClampNeg, q]; simp, ?_, q⟩
  rw [Int32.lt_iff_toInt_lt, q, z]; omega
theorem own_lt {i n : Nat} (hi : i < 2 ^ 31) (hn : n < 2 ^ 31) : Int32.ofNat i < Int32.ofNat n ↔ i < n := by
  rw [Int32.lt_iff_toInt_lt, (own_nat hi).2.2, (own_nat hn).2.2]; omega
theorem own_up (i : Nat) : Int32.ofNat i + (1 : Int32) = Int32.ofNat (i + 1) := (Int32.ofNat_add i 1).symm
/-- a static stands where none of the written cells holds statics -/
theorem own_sta_keep {h' : Heap} {C n d : String} {v : Value} {ws : List Addr} (F : Sta Z h C n d v) (K : Keep h h' ws) (q : ∀ w ∈ ws, ∃ c : Cell, h[w]? = some c ∧ c.vm.isStatics = false) : Sta Z h' C n d v := by
  obtain ⟨cf, i, k, f, st, cell, h1, h2, h3, h4, h5, h6, h7⟩ := F
  refine ⟨cf, i, k, f, st, cell, h1, h2, h3, h4, K.2.1 st cell h5 (fun z => ?_), h6, h7⟩
  obtain ⟨c, e1, e2⟩ := q st z
  rw [h5] at e1; cases e1
  rw [h6] at e2; cases e2
theorem own_pl_exa {a : Addr} {C : String} (E : Exa Z h a C) : ∃ c : Cell, h[a]? = some c ∧ c.vm.isStatics = false := by obtain ⟨c, k, h1, -, -, h4, -⟩ := E; exact ⟨c, h1, h4⟩
theorem own_pl_arr {a : Addr} {ty : FieldType} {n : Nat} {f : Nat → Value} (F : OAr Z h a ty n f) : ∃ c : Cell, h[a]? = some c ∧ c.vm.isStatics = false := by obtain ⟨c, A, -⟩ := F; exact ⟨c, A.1, A.plain⟩
theorem own_shr0 (x : Int32) : x >>> ((0 : Int32) &&& 31) = x := Int32.toInt_inj.mp (by rw [c_ishr x 0 0 (by decide)]; simp)
abbrev OLawQ (n0 : Nat) : Option Value → Heap → List Loc → Prop := fun v _ L => v = some (.int (1 : Int32)) ∧ Fr n0 L
/-- a boolean as the machine's int -/
def OB (b : Bool) : Int32 := if b then 1 else 0
theorem own_b1 : nar .boolean (1 : Int32) = 1 := by decide
theorem own_b0 : nar .boolean (0 : Int32) = 0 := by decide
theorem own_nb (b : Bool) : nar .boolean (OB b) = OB b := by cases b <;> decide
end OwnKit
/-- a char's byte in a Latin-1 string -/
def own_lb (x : Int32) : Int32 := nar .byte x.toInt8.toInt32
def own_lbs (f : Nat → Int32) (g : Nat → Value) (k j : Nat) : Value := if j < k then .int (own_lb (f j)) else g j
theorem own_lbs0 (f : Nat → Int32) (g : Nat → Value) (n : Nat) : ∀ j, j < n → g j = own_lbs f g 0 j := fun j _ => by simp [own_lbs]
theorem own_lbsS (f : Nat → Int32) (g : Nat → Value) (n i : Nat) (hi : i < 2 ^ 31) : ∀ j, j < n → (if j = (Int32.ofNat i).toNatClampNeg then Value.int (nar .byte (f i).toInt8.toInt32) else own_lbs f g i j) = own_lbs f g (i + 1) j := fun j _ => by
  rw [(own_nat hi).1]
  by_cases q : j = i
  · subst q; simp [own_lbs, own_lb]
  · have e : (j < i + 1) ↔ (j < i) := by omega
    simp [own_lbs, q, e]
theorem own_lbsN (f : Nat → Int32) (g : Nat → Value) (n : Nat) : ∀ j, j < n → own_lbs f g n j = .int (own_lb (f j)) := fun j hj => by simp [own_lbs, hj]
theorem own_st6 {z0 z1 z2 z3 z4 z5 : Value} {s6 : Slot} {v : Int32} (h : One s6) : storeLocals #[.val z0, .val z1, .val z2, .val z3, .val z4, .val z5, s6] 6 (.int v) = some #[.val z0, .val z1, .val z2, .val z3, .val z4, .val z5, .val (.int v)] := by
  rcases h with rfl | ⟨w, rfl, hw⟩
  · rfl
  · cases w <;> first | rfl | (simp [Value.category] at hw)
theorem d6_0 : decode jdk_52_method_21_code 0 = .ok (.iconst 0, 1) := by decide +kernel
theorem d6_1 : decode jdk_52_method_21_code 1 = .ok (.istore 5, 2) := by decide +kernel
theorem d6_3 : decode jdk_52_method_21_code 3 = .ok (.iload 5, 2) := by decide +kernel
theorem d6_5 : decode jdk_52_method_21_code 5 = .ok (.iload 4, 2) := by decide +kernel
theorem d6_7 : decode jdk_52_method_21_code 7 = .ok (.if_icmp .ge 37, 3) := by decide +kernel
theorem d6_44 : decode jdk_52_method_21_code 44 = .ok (.iload 4, 2) := by decide +kernel
theorem d6_46 : decode jdk_52_method_21_code 46 = .ok (.ireturn, 1) := by decide +kernel
theorem d6_10 : decode jdk_52_method_21_code 10 = .ok (.aload_n 0, 1) := by decide +kernel
theorem d6_11 : decode jdk_52_method_21_code 11 = .ok (.iload_n 1, 1) := by decide +kernel
theorem d6_12 : decode jdk_52_method_21_code 12 = .ok (.caload, 1) := by decide +kernel
theorem d6_13 : decode jdk_52_method_21_code 13 = .ok (.istore 6, 2) := by decide +kernel
theorem d6_15 : decode jdk_52_method_21_code 15 = .ok (.iload 6, 2) := by decide +kernel
theorem d6_17 : decode jdk_52_method_21_code 17 = .ok (.sipush 255, 3) := by decide +kernel
theorem d6_20 : decode jdk_52_method_21_code 20 = .ok (.if_icmp .le 6, 3) := by decide +kernel
theorem d6_26 : decode jdk_52_method_21_code 26 = .ok (.aload_n 2, 1) := by decide +kernel
theorem d6_27 : decode jdk_52_method_21_code 27 = .ok (.iload_n 3, 1) := by decide +kernel
theorem d6_28 : decode jdk_52_method_21_code 28 = .ok (.iload 6, 2) := by decide +kernel
theorem d6_30 : decode jdk_52_method_21_code 30 = .ok (.i2b, 1) := by decide +kernel
theorem d6_31 : decode jdk_52_method_21_code 31 = .ok (.bastore, 1) := by decide +kernel
theorem d6_32 : decode jdk_52_method_21_code 32 = .ok (.iinc 1 1, 3) := by decide +kernel
theorem d6_35 : decode jdk_52_method_21_code 35 = .ok (.iinc 3 1, 3) := by decide +kernel
theorem d6_38 : decode jdk_52_method_21_code 38 = .ok (.iinc 5 1, 3) := by decide +kernel
theorem d6_41 : decode jdk_52_method_21_code 41 = .ok (.goto (-38), 3) := by decide +kernel
theorem pn_java_lang_StringUTF16 : plainName "java/lang/StringUTF16" = true := by first | (simp [plainName, overriddenIn]; done) | decide +kernel
theorem ef_6_RIRII (m : MethodId) (x0 : Addr) (x1 : Int32) (x2 : Addr) (x3 : Int32) (x4 : Int32) : entryFrame m #[(.ref x0), (.int x1), (.ref x2), (.int x3), (.int x4)] 7 = mkF m 0 #[.val (.ref x0), .val (.int x1), .val (.ref x2), .val (.int x3), .val (.int x4), .unset, .unset] [] := by first | (simp [entryFrame, mkF, argsToLocals, Value.category]; done) | rfl
set_option maxRecDepth 65536 in
set_option maxHeartbeats 40000000 in
theorem sc1 (l : Launch) (Z : State) (a0 : Array Value) (hw : ∀ d ∈ tables_1, d.before a0 Z = true) (a1 : Addr) (a2 : Addr) (n : Nat) (cf : Nat → Int32) (gf : Nat → Value) (h0 : Heap) (n0 : Nat) (Z0 : n0 ≤ h0.size) (old_a2 : n0 ≤ a2) (ne_a1_a2 : a1 ≠ a2) (A_a1 : OAr Z h0 a1 .char n (fun j => .int (cf j))) (A_a2 : OAr Z h0 a2 .byte n gf) (hn : n < 2 ^ 31) (hc : ∀ j, j < n → ¬ (255 : Int32) < cf j) :
    OMet l Z (⟨"java/lang/StringUTF16", "compress", "([CI[BII)I"⟩ : MethodName) jdk_52_method_21_code 7 (some .int) [] ({ frames := 0, cells := 0, slots := 0, locals := 0 } : Room) #[(.ref a1), (.int (0 : Int32)), (.ref a2), (.int (0 : Int32)), (.int (Int32.ofNat n))] h0 (fun v h' L => v = some (.int (Int32.ofNat n)) ∧ Fr n0 L ∧ Keep h0 h' [a2] ∧ OAr Z h' a2 .byte n (fun j => .int (own_lb (cf j)))) := by
  refine own_body (plainFor_of_name pn_java_lang_StringUTF16) (fun m => ef_6_RIRII m a1 (0 : Int32) a2 (0 : Int32) (Int32.ofNat n)) ?_
  intro p e s m below meth c T0 hx hby hml hown hnm hret hlk hZ X0 e0
  have hown : s.vm.findClass "java/lang/StringUTF16" = some m.cls := hown
  have hml : c.maxLocals = 7 := hml
  have N0 := Fr.nil n0
  have K0 := Keep.refl h0 [a2]
  show OGo p e below s _ _ (T0.setTop (mkF m 0 #[.val (.ref a1), .val (.int (0 : Int32)), .val (.ref a2), .val (.int (0 : Int32)), .val (.int (Int32.ofNat n)), .unset, .unset] []))
  refine own_st (fun t k => XS.iconst X0.here hx rfl (hb hby d6_0) k) ?_
  show OGo p e below s _ _ (T0.setTop (mkF m 1 #[.val (.ref a1), .val (.int (0 : Int32)), .val (.ref a2), .val (.int (0 : Int32)), .val (.int (Int32.ofNat n)), .unset, .unset] [(.int (0 : Int32))]))
  refine own_st (fun t k => XS.istore X0.here hx rfl (hb hby d6_1) rfl (l' := #[.val (.ref a1), .val (.int (0 : Int32)), .val (.ref a2), .val (.int (0 : Int32)), .val (.int (Int32.ofNat n)), .val (.int (0 : Int32)), .unset]) rfl k) ?_
  show OGo p e below s _ _ (T0.setTop (mkF m 3 #[.val (.ref a1), .val (.int (0 : Int32)), .val (.ref a2), .val (.int (0 : Int32)), .val (.int (Int32.ofNat n)), .val (.int (0 : Int32)), .unset] []))
  have A_a2 := A_a2.cong (own_lbs0 cf gf n)
  have loop : ∀ (k i : Nat) (TL : State) (LL : List Loc) (hL : Heap) (s6 : Slot), i + k = n → One s6 → Stand p l e ({ frames := 0, cells := 0, slots := 0, locals := 0 } : Room) s m #[(.ref a1), (.int (0 : Int32)), (.ref a2), (.int (0 : Int32)), (.int (Int32.ofNat n))] below meth c TL LL 0 0 → TL.heap = hL → Fr n0 LL → n0 ≤ hL.size → Keep h0 hL [a2] → OAr Z hL a1 .char n (fun j => .int (cf j)) → OAr Z hL a2 .byte n (own_lbs cf gf i) → OGo p e below s ({ frames := 0, cells := 0, slots := 0, locals := 0 } : Room) (fun v h' L => v = some (.int (Int32.ofNat n)) ∧ Fr n0 L ∧ Keep h0 h' [a2] ∧ OAr Z h' a2 .byte n (fun j => .int (own_lb (cf j)))) (TL.setTop (mkF m 3 #[.val (.ref a1), .val (.int (Int32.ofNat i)), .val (.ref a2), .val (.int (Int32.ofNat i)), .val (.int (Int32.ofNat n)), .val (.int (Int32.ofNat i)), s6] [])) := by
    intro k
    induction k with
    | zero =>
      intro i TL LL hL s6 hi hs6 XL eL NL Z0 K0 A_a1 A_a2
      obtain rfl : n = i := by omega
      show OGo p e below s _ _ (TL.setTop (mkF m 3 #[.val (.ref a1), .val (.int (Int32.ofNat n)), .val (.ref a2), .val (.int (Int32.ofNat n)), .val (.int (Int32.ofNat n)), .val (.int (Int32.ofNat n)), s6] []))
      refine own_st (fun t k => XS.iload XL.here hx rfl (hb hby d6_3) rfl k) ?_
      show OGo p e below s _ _ (TL.setTop (mkF m 5 #[.val (.ref a1), .val (.int (Int32.ofNat n)), .val (.ref a2), .val (.int (Int32.ofNat n)), .val (.int (Int32.ofNat n)), .val (.int (Int32.ofNat n)), s6] [(.int (Int32.ofNat n))]))
      refine own_st (fun t k => XS.iload XL.here hx rfl (hb hby d6_5) rfl k) ?_
      show OGo p e below s _ _ (TL.setTop (mkF m 7 #[.val (.ref a1), .val (.int (Int32.ofNat n)), .val (.ref a2), .val (.int (Int32.ofNat n)), .val (.int (Int32.ofNat n)), .val (.int (Int32.ofNat n)), s6] [(.int (Int32.ofNat n)), (.int (Int32.ofNat n))]))
      refine own_st (fun t k => XS.icmpYes XL.here hx rfl (pc0 := 7) (pc' := 44) rfl (hb hby d6_7) rfl (flt ((fun q => absurd ((own_lt hn hn).mp q) (Nat.lt_irrefl _)))).2.1 (by decide) (by decide) k) ?_
      show OGo p e below s _ _ (TL.setTop (mkF m 44 #[.val (.ref a1), .val (.int (Int32.ofNat n)), .val (.ref a2), .val (.int (Int32.ofNat n)), .val (.int (Int32.ofNat n)), .val (.int (Int32.ofNat n)), s6] []))
      refine own_st (fun t k => XS.iload XL.here hx rfl (hb hby d6_44) rfl k) ?_
      show OGo p e below s _ _ (TL.setTop (mkF m 46 #[.val (.ref a1), .val (.int (Int32.ofNat n)), .val (.ref a2), .val (.int (Int32.ofNat n)), .val (.int (Int32.ofNat n)), .val (.int (Int32.ofNat n)), s6] [(.int (Int32.ofNat n))]))
      have A_a2 := A_a2.cong (own_lbsN cf gf n)
      exact own_retI XL hx hlk hret (hb hby d6_46) (by decide) (by decide) (⟨rfl, NL, (by rw [eL]; exact K0), (by rw [eL]; exact A_a2)⟩)
    | succ k ih =>
      intro i TL LL hL s6 hi hs6 XL eL NL Z0 K0 A_a1 A_a2
      show OGo p e below s _ _ (TL.setTop (mkF m 3 #[.val (.ref a1), .val (.int (Int32.ofNat i)), .val (.ref a2), .val (.int (Int32.ofNat i)), .val (.int (Int32.ofNat n)), .val (.int (Int32.ofNat i)), s6] []))
      refine own_st (fun t k => XS.iload XL.here hx rfl (hb hby d6_3) rfl k) ?_
      show OGo p e below s _ _ (TL.setTop (mkF m 5 #[.val (.ref a1), .val (.int (Int32.ofNat i)), .val (.ref a2), .val (.int (Int32.ofNat i)), .val (.int (Int32.ofNat n)), .val (.int (Int32.ofNat i)), s6] [(.int (Int32.ofNat i))]))
      refine own_st (fun t k => XS.iload XL.here hx rfl (hb hby d6_5) rfl k) ?_
      show OGo p e below s _ _ (TL.setTop (mkF m 7 #[.val (.ref a1), .val (.int (Int32.ofNat i)), .val (.ref a2), .val (.int (Int32.ofNat i)), .val (.int (Int32.ofNat n)), .val (.int (Int32.ofNat i)), s6] [(.int (Int32.ofNat n)), (.int (Int32.ofNat i))]))
      refine own_st (fun t k => XS.icmpNo XL.here hx rfl (hb hby d6_7) rfl (tlt (((own_lt (by omega) hn).mpr (by omega)))).2.1 k) ?_
      show OGo p e below s _ _ (TL.setTop (mkF m 10 #[.val (.ref a1), .val (.int (Int32.ofNat i)), .val (.ref a2), .val (.int (Int32.ofNat i)), .val (.int (Int32.ofNat n)), .val (.int (Int32.ofNat i)), s6] []))
      refine own_st (fun t k => XS.aloadN XL.here hx rfl (hb hby d6_10) rfl rfl k) ?_
      show OGo p e below s _ _ (TL.setTop (mkF m 11 #[.val (.ref a1), .val (.int (Int32.ofNat i)), .val (.ref a2), .val (.int (Int32.ofNat i)), .val (.int (Int32.ofNat n)), .val (.int (Int32.ofNat i)), s6] [(.ref a1)]))
      refine own_st (fun t k => XS.iloadN XL.here hx rfl (hb hby d6_11) rfl k) ?_
      show OGo p e below s _ _ (TL.setTop (mkF m 12 #[.val (.ref a1), .val (.int (Int32.ofNat i)), .val (.ref a2), .val (.int (Int32.ofNat i)), .val (.int (Int32.ofNat n)), .val (.int (Int32.ofNat i)), s6] [(.int (Int32.ofNat i)), (.ref a1)]))
      obtain ⟨cl1, Ar1, Sz1, Hh1⟩ := id A_a1
      have hin1 := own_in (i := (Int32.ofNat i)) Sz1 (own_nat (by omega)).2.1 (by rw [(own_nat (by omega)).1]; omega)
      refine own_st (XL.caload hx (j := (Int32.ofNat i)) (v := (.int (cf i))) (by rw [eL]; exact Ar1.1) (State.isArrayOf_alike hZ.alike Ar1.2.1) Ar1.2.2 hin1 ((Hh1 _ (by rw [(own_nat (by omega)).1]; omega)).trans (congrArg some (by rw [(own_nat (by omega)).1]))) (g := (mkF m 12 #[.val (.ref a1), .val (.int (Int32.ofNat i)), .val (.ref a2), .val (.int (Int32.ofNat i)), .val (.int (Int32.ofNat n)), .val (.int (Int32.ofNat i)), s6] [(.int (Int32.ofNat i)), (.ref a1)])) rfl rfl (hb hby d6_12)) ?_
      show OGo p e below s _ _ (TL.setTop (mkF m 13 #[.val (.ref a1), .val (.int (Int32.ofNat i)), .val (.ref a2), .val (.int (Int32.ofNat i)), .val (.int (Int32.ofNat n)), .val (.int (Int32.ofNat i)), s6] [(.int (cf i))]))
      refine own_st (fun t k => XS.istore XL.here hx rfl (hb hby d6_13) rfl (l' := #[.val (.ref a1), .val (.int (Int32.ofNat i)), .val (.ref a2), .val (.int (Int32.ofNat i)), .val (.int (Int32.ofNat n)), .val (.int (Int32.ofNat i)), .val (.int (cf i))]) (own_st6 hs6) k) ?_
      show OGo p e below s _ _ (TL.setTop (mkF m 15 #[.val (.ref a1), .val (.int (Int32.ofNat i)), .val (.ref a2), .val (.int (Int32.ofNat i)), .val (.int (Int32.ofNat n)), .val (.int (Int32.ofNat i)), .val (.int (cf i))] []))
      refine own_st (fun t k => XS.iload XL.here hx rfl (hb hby d6_15) rfl k) ?_
      show OGo p e below s _ _ (TL.setTop (mkF m 17 #[.val (.ref a1), .val (.int (Int32.ofNat i)), .val (.ref a2), .val (.int (Int32.ofNat i)), .val (.int (Int32.ofNat n)), .val (.int (Int32.ofNat i)), .val (.int (cf i))] [(.int (cf i))]))
      refine own_st (fun t k => XS.sipush XL.here hx rfl (hb hby d6_17) k) ?_
      show OGo p e below s _ _ (TL.setTop (mkF m 20 #[.val (.ref a1), .val (.int (Int32.ofNat i)), .val (.ref a2), .val (.int (Int32.ofNat i)), .val (.int (Int32.ofNat n)), .val (.int (Int32.ofNat i)), .val (.int (cf i))] [(.int (255 : Int32)), (.int (cf i))]))
      refine own_st (fun t k => XS.icmpYes XL.here hx rfl (pc0 := 20) (pc' := 26) rfl (hb hby d6_20) rfl (flt ((hc i (by omega)))).2.2.2 (by decide) (by decide) k) ?_
      show OGo p e below s _ _ (TL.setTop (mkF m 26 #[.val (.ref a1), .val (.int (Int32.ofNat i)), .val (.ref a2), .val (.int (Int32.ofNat i)), .val (.int (Int32.ofNat n)), .val (.int (Int32.ofNat i)), .val (.int (cf i))] []))
      refine own_st (fun t k => XS.aloadN XL.here hx rfl (hb hby d6_26) rfl rfl k) ?_
      show OGo p e below s _ _ (TL.setTop (mkF m 27 #[.val (.ref a1), .val (.int (Int32.ofNat i)), .val (.ref a2), .val (.int (Int32.ofNat i)), .val (.int (Int32.ofNat n)), .val (.int (Int32.ofNat i)), .val (.int (cf i))] [(.ref a2)]))
      refine own_st (fun t k => XS.iloadN XL.here hx rfl (hb hby d6_27) rfl k) ?_
      show OGo p e below s _ _ (TL.setTop (mkF m 28 #[.val (.ref a1), .val (.int (Int32.ofNat i)), .val (.ref a2), .val (.int (Int32.ofNat i)), .val (.int (Int32.ofNat n)), .val (.int (Int32.ofNat i)), .val (.int (cf i))] [(.int (Int32.ofNat i)), (.ref a2)]))
      refine own_st (fun t k => XS.iload XL.here hx rfl (hb hby d6_28) rfl k) ?_
      show OGo p e below s _ _ (TL.setTop (mkF m 30 #[.val (.ref a1), .val (.int (Int32.ofNat i)), .val (.ref a2), .val (.int (Int32.ofNat i)), .val (.int (Int32.ofNat n)), .val (.int (Int32.ofNat i)), .val (.int (cf i))] [(.int (cf i)), (.int (Int32.ofNat i)), (.ref a2)]))
      refine own_st (fun t k => XS.i2b XL.here hx rfl (hb hby d6_30) rfl k) ?_
      show OGo p e below s _ _ (TL.setTop (mkF m 31 #[.val (.ref a1), .val (.int (Int32.ofNat i)), .val (.ref a2), .val (.int (Int32.ofNat i)), .val (.int (Int32.ofNat n)), .val (.int (Int32.ofNat i)), .val (.int (cf i))] [(.int (cf i).toInt8.toInt32), (.int (Int32.ofNat i)), (.ref a2)]))
      obtain ⟨cl2, Ar2, Sz2, Hh2⟩ := id A_a2
      obtain ⟨T2, hp2, X2, e2, Ww2, st2⟩ := stB XL hx hZ eL Ar2 (j := (Int32.ofNat i)) (own_in Sz2 (own_nat (by omega)).2.1 (by rw [(own_nat (by omega)).1]; omega)) (g := (mkF m 31 #[.val (.ref a1), .val (.int (Int32.ofNat i)), .val (.ref a2), .val (.int (Int32.ofNat i)), .val (.int (Int32.ofNat n)), .val (.int (Int32.ofNat i)), .val (.int (cf i))] [(.int (cf i).toInt8.toInt32), (.int (Int32.ofNat i)), (.ref a2)])) rfl rfl (hb hby d6_31)
      have Nf2 := Fr.snoc X2 NL old_a2
      have Z0 := Nat.le_trans Z0 (Keep.of_wr Ww2).1
      have K0 := K0.wr Ww2 (Or.inl (List.mem_of_getElem? (i := 0) rfl))
      have A_a1 := A_a1.other Ww2 ne_a1_a2
      have A_a2 := OAr.set Ar2 Sz2 Hh2 Ww2
      refine own_st st2 ?_
      show OGo p e below s _ _ (T2.setTop (mkF m 32 #[.val (.ref a1), .val (.int (Int32.ofNat i)), .val (.ref a2), .val (.int (Int32.ofNat i)), .val (.int (Int32.ofNat n)), .val (.int (Int32.ofNat i)), .val (.int (cf i))] []))
      have A_a2 := A_a2.cong (own_lbsS cf gf n i (by omega))
      refine own_st (fun t k => XS.iinc X2.here hx rfl (hb hby d6_32) rfl (l' := #[.val (.ref a1), .val (.int ((Int32.ofNat i) + (1 : Int32))), .val (.ref a2), .val (.int (Int32.ofNat i)), .val (.int (Int32.ofNat n)), .val (.int (Int32.ofNat i)), .val (.int (cf i))]) rfl k) ?_
      show OGo p e below s _ _ (T2.setTop (mkF m 35 #[.val (.ref a1), .val (.int ((Int32.ofNat i) + (1 : Int32))), .val (.ref a2), .val (.int (Int32.ofNat i)), .val (.int (Int32.ofNat n)), .val (.int (Int32.ofNat i)), .val (.int (cf i))] []))
      refine own_st (fun t k => XS.iinc X2.here hx rfl (hb hby d6_35) rfl (l' := #[.val (.ref a1), .val (.int ((Int32.ofNat i) + (1 : Int32))), .val (.ref a2), .val (.int ((Int32.ofNat i) + (1 : Int32))), .val (.int (Int32.ofNat n)), .val (.int (Int32.ofNat i)), .val (.int (cf i))]) rfl k) ?_
      show OGo p e below s _ _ (T2.setTop (mkF m 38 #[.val (.ref a1), .val (.int ((Int32.ofNat i) + (1 : Int32))), .val (.ref a2), .val (.int ((Int32.ofNat i) + (1 : Int32))), .val (.int (Int32.ofNat n)), .val (.int (Int32.ofNat i)), .val (.int (cf i))] []))
      refine own_st (fun t k => XS.iinc X2.here hx rfl (hb hby d6_38) rfl (l' := #[.val (.ref a1), .val (.int ((Int32.ofNat i) + (1 : Int32))), .val (.ref a2), .val (.int ((Int32.ofNat i) + (1 : Int32))), .val (.int (Int32.ofNat n)), .val (.int ((Int32.ofNat i) + (1 : Int32))), .val (.int (cf i))]) rfl k) ?_
      show OGo p e below s _ _ (T2.setTop (mkF m 41 #[.val (.ref a1), .val (.int ((Int32.ofNat i) + (1 : Int32))), .val (.ref a2), .val (.int ((Int32.ofNat i) + (1 : Int32))), .val (.int (Int32.ofNat n)), .val (.int ((Int32.ofNat i) + (1 : Int32))), .val (.int (cf i))] []))
      refine own_st (fun t k => XS.goto X2.here hx rfl (pc0 := 41) (pc' := 3) rfl (hb hby d6_41) (by decide) (by decide) k) ?_
      show OGo p e below s _ _ (T2.setTop (mkF m 3 #[.val (.ref a1), .val (.int ((Int32.ofNat i) + (1 : Int32))), .val (.ref a2), .val (.int ((Int32.ofNat i) + (1 : Int32))), .val (.int (Int32.ofNat n)), .val (.int ((Int32.ofNat i) + (1 : Int32))), .val (.int (cf i))] []))
      rw [own_up]
      exact ih (i + 1) T2 _ hp2 _ (by omega) (One.val rfl) X2 e2 Nf2 Z0 K0 A_a1 A_a2
  exact loop n 0 _ _ _ _ (by omega) One.u X0 e0 N0 Z0 K0 A_a1 A_a2
theorem d5_0 : decode jdk_52_method_16_code 0 = .ok (.iload_n 2, 1) := by decide +kernel
theorem d5_1 : decode jdk_52_method_16_code 1 = .ok (.newarray .byte, 2) := by decide +kernel
theorem d5_3 : decode jdk_52_method_16_code 3 = .ok (.astore_n 3, 1) := by decide +kernel
theorem d5_4 : decode jdk_52_method_16_code 4 = .ok (.aload_n 0, 1) := by decide +kernel
theorem d5_5 : decode jdk_52_method_16_code 5 = .ok (.iload_n 1, 1) := by decide +kernel
theorem d5_6 : decode jdk_52_method_16_code 6 = .ok (.aload_n 3, 1) := by decide +kernel
theorem d5_7 : decode jdk_52_method_16_code 7 = .ok (.iconst 0, 1) := by decide +kernel
theorem d5_8 : decode jdk_52_method_16_code 8 = .ok (.iload_n 2, 1) := by decide +kernel
theorem d5_9 : decode jdk_52_method_16_code 9 = .ok (.invokestatic 115, 3) := by decide +kernel
theorem pd_0 : parseMethodDescriptor "([CI[BII)I" = some ⟨[(.array .char), .int, (.array .byte), .int, .int], some .int⟩ := by decide +kernel
theorem d5_12 : decode jdk_52_method_16_code 12 = .ok (.istore 4, 2) := by decide +kernel
theorem d5_14 : decode jdk_52_method_16_code 14 = .ok (.iload 4, 2) := by decide +kernel
theorem d5_16 : decode jdk_52_method_16_code 16 = .ok (.iload_n 2, 1) := by decide +kernel
theorem d5_17 : decode jdk_52_method_16_code 17 = .ok (.if_icmp .eq 40, 3) := by decide +kernel
theorem d5_57 : decode jdk_52_method_16_code 57 = .ok (.aload_n 3, 1) := by decide +kernel
theorem d5_58 : decode jdk_52_method_16_code 58 = .ok (.areturn, 1) := by decide +kernel
theorem ef_5_RII (m : MethodId) (x0 : Addr) (x1 : Int32) (x2 : Int32) : entryFrame m #[(.ref x0), (.int x1), (.int x2)] 6 = mkF m 0 #[.val (.ref x0), .val (.int x1), .val (.int x2), .unset, .unset, .unset] [] := by first | (simp [entryFrame, mkF, argsToLocals, Value.category]; done) | rfl
set_option maxRecDepth 65536 in
set_option maxHeartbeats 40000000 in
theorem sc2 (l : Launch) (Z : State) (a0 : Array Value) (hw : ∀ d ∈ tables_1, d.before a0 Z = true) (a1 : Addr) (n : Nat) (cf : Nat → Int32) (h0 : Heap) (n0 : Nat) (Z0 : n0 ≤ h0.size) (A_a1 : OAr Z h0 a1 .char n (fun j => .int (cf j))) (hn : n ≤ 2) (h1 : 0 < n) (hc : ∀ j, j < n → ¬ (255 : Int32) < cf j) :
    OMet l Z (⟨"java/lang/StringUTF16", "compress", "([CII)[B"⟩ : MethodName) jdk_52_method_16_code 6 (some (.array .byte)) [] ({ frames := 1, cells := 1, slots := 2, locals := 18 } : Room) #[(.ref a1), (.int (0 : Int32)), (.int (Int32.ofNat n))] h0 (fun v h' L => ∃ t1 : Addr, v = some (.ref t1) ∧ Fr n0 L ∧ Keep h0 h' [] ∧ h0.size ≤ t1 ∧ OAr Z h' t1 .byte n (fun j => .int (own_lb (cf j)))) := by
  refine own_body (plainFor_of_name pn_java_lang_StringUTF16) (fun m => ef_5_RII m a1 (0 : Int32) (Int32.ofNat n)) ?_
  intro p e s m below meth c T0 hx hby hml hown hnm hret hlk hZ X0 e0
  have hown : s.vm.findClass "java/lang/StringUTF16" = some m.cls := hown
  have hml : c.maxLocals = 6 := hml
  have N0 := Fr.nil n0
  have K0 := Keep.refl h0 []
  show OGo p e below s _ _ (T0.setTop (mkF m 0 #[.val (.ref a1), .val (.int (0 : Int32)), .val (.int (Int32.ofNat n)), .unset, .unset, .unset] []))
  refine own_st (fun t k => XS.iloadN X0.here hx rfl (hb hby d5_0) rfl k) ?_
  show OGo p e below s _ _ (T0.setTop (mkF m 1 #[.val (.ref a1), .val (.int (0 : Int32)), .val (.int (Int32.ofNat n)), .unset, .unset, .unset] [(.int (Int32.ofNat n))]))
  obtain ⟨T3, hp3, kk3, X3, e3, Ex3, Aa3, st3⟩ := newP X0 hx hZ (hw _ (List.mem_of_getElem? (i := 27) rfl)) e0 (g := (mkF m 1 #[.val (.ref a1), .val (.int (0 : Int32)), .val (.int (Int32.ofNat n)), .unset, .unset, .unset] [(.int (Int32.ofNat n))])) rfl (hb hby d5_1) rfl (own_nat (i := n) (by omega)).2.1 (cap := 2) (by rw [(own_nat (i := n) (by omega)).1]; exact hn) (by decide) (by decide) (by decide)
  obtain ⟨t1, gs3⟩ : ∃ z, z = h0.size := ⟨_, rfl⟩
  rw [← gs3] at Aa3 st3
  have ne_a1_t1 : a1 ≠ t1 := Nat.ne_of_lt (Nat.lt_of_lt_of_le A_a1.lt (Nat.le_of_eq gs3.symm))
  have old_t1 : n0 ≤ t1 := Nat.le_trans Z0 (Nat.le_of_eq gs3.symm)
  have fr_t1 : h0.size ≤ t1 := Nat.le_trans K0.1 (Nat.le_of_eq gs3.symm)
  have K0 := K0.ext Ex3
  have Z0 := Nat.le_trans Z0 Ex3.1
  have A_a1 := A_a1.ext Ex3
  have A_t1 := OAr.new Aa3
  refine own_st st3 ?_
  show OGo p e below s _ _ (T3.setTop (mkF m 3 #[.val (.ref a1), .val (.int (0 : Int32)), .val (.int (Int32.ofNat n)), .unset, .unset, .unset] [(.ref t1)]))
  rw [(own_nat (i := n) (by omega)).1] at A_t1
  refine own_st (fun t k => XS.astoreN X3.here hx rfl (hb hby d5_3) rfl rfl (l' := #[.val (.ref a1), .val (.int (0 : Int32)), .val (.int (Int32.ofNat n)), .val (.ref t1), .unset, .unset]) rfl k) ?_
  show OGo p e below s _ _ (T3.setTop (mkF m 4 #[.val (.ref a1), .val (.int (0 : Int32)), .val (.int (Int32.ofNat n)), .val (.ref t1), .unset, .unset] []))
  refine own_st (fun t k => XS.aloadN X3.here hx rfl (hb hby d5_4) rfl rfl k) ?_
  show OGo p e below s _ _ (T3.setTop (mkF m 5 #[.val (.ref a1), .val (.int (0 : Int32)), .val (.int (Int32.ofNat n)), .val (.ref t1), .unset, .unset] [(.ref a1)]))
  refine own_st (fun t k => XS.iloadN X3.here hx rfl (hb hby d5_5) rfl k) ?_
  show OGo p e below s _ _ (T3.setTop (mkF m 6 #[.val (.ref a1), .val (.int (0 : Int32)), .val (.int (Int32.ofNat n)), .val (.ref t1), .unset, .unset] [(.int (0 : Int32)), (.ref a1)]))
  refine own_st (fun t k => XS.aloadN X3.here hx rfl (hb hby d5_6) rfl rfl k) ?_
  show OGo p e below s _ _ (T3.setTop (mkF m 7 #[.val (.ref a1), .val (.int (0 : Int32)), .val (.int (Int32.ofNat n)), .val (.ref t1), .unset, .unset] [(.ref t1), (.int (0 : Int32)), (.ref a1)]))
  refine own_st (fun t k => XS.iconst X3.here hx rfl (hb hby d5_7) k) ?_
  show OGo p e below s _ _ (T3.setTop (mkF m 8 #[.val (.ref a1), .val (.int (0 : Int32)), .val (.int (Int32.ofNat n)), .val (.ref t1), .unset, .unset] [(.int (0 : Int32)), (.ref t1), (.int (0 : Int32)), (.ref a1)]))
  refine own_st (fun t k => XS.iloadN X3.here hx rfl (hb hby d5_8) rfl k) ?_
  show OGo p e below s _ _ (T3.setTop (mkF m 9 #[.val (.ref a1), .val (.int (0 : Int32)), .val (.int (Int32.ofNat n)), .val (.ref t1), .unset, .unset] [(.int (Int32.ofNat n)), (.int (0 : Int32)), (.ref t1), (.int (0 : Int32)), (.ref a1)]))
  obtain ⟨_, T4, Lc4, X4, hQ4, st4⟩ := own_callS X3 hx hZ (y := (⟨"java/lang/StringUTF16", "compress", "([CI[BII)I"⟩ : MethodName)) (W := 0) hown (hw _ (List.mem_of_getElem? (i := 28) rfl)) (hw _ (List.mem_of_getElem? (i := 29) rfl)) (hw _ (List.mem_of_getElem? (i := 25) rfl)) (hw _ (List.mem_of_getElem? (i := 30) rfl)) (by decide) (sc1 l Z a0 hw a1 t1 n cf (fun _ => defaultValue .byte) hp3 n0 Z0 old_t1 ne_a1_t1 A_a1 A_t1 (by omega) hc) (by decide) (by decide) (g := (mkF m 9 #[.val (.ref a1), .val (.int (0 : Int32)), .val (.int (Int32.ofNat n)), .val (.ref t1), .unset, .unset] [(.int (Int32.ofNat n)), (.int (0 : Int32)), (.ref t1), (.int (0 : Int32)), (.ref a1)])) rfl (by rw [hml]; rfl) (argsL := [(.ref a1), (.int (0 : Int32)), (.ref t1), (.int (0 : Int32)), (.int (Int32.ofNat n))]) (rest := []) (lenOf pd_0 rfl) rfl (by show 2 * 0 + _ ≤ _; exact Nat.le_of_eq rfl) (hb hby d5_9) rfl e3 (by decide) (by decide)
  obtain ⟨rfl, Nq4, Kq4, q4_0⟩ := hQ4
  have Z0 := Nat.le_trans Z0 Kq4.1
  have K0 := K0.trans Kq4 (allS (Or.inr fr_t1) all0)
  have A_a1 := A_a1.keep Kq4 (ninS ne_a1_t1 nin0)
  have Nr4 := Fr.app N0 Nq4
  have A_t1 := q4_0
  refine own_st st4 ?_
  show OGo p e below s _ _ (T4.setTop (mkF m 12 #[.val (.ref a1), .val (.int (0 : Int32)), .val (.int (Int32.ofNat n)), .val (.ref t1), .unset, .unset] [(.int (Int32.ofNat n))]))
  refine own_st (fun t k => XS.istore X4.here hx rfl (hb hby d5_12) rfl (l' := #[.val (.ref a1), .val (.int (0 : Int32)), .val (.int (Int32.ofNat n)), .val (.ref t1), .val (.int (Int32.ofNat n)), .unset]) rfl k) ?_
  show OGo p e below s _ _ (T4.setTop (mkF m 14 #[.val (.ref a1), .val (.int (0 : Int32)), .val (.int (Int32.ofNat n)), .val (.ref t1), .val (.int (Int32.ofNat n)), .unset] []))
  refine own_st (fun t k => XS.iload X4.here hx rfl (hb hby d5_14) rfl k) ?_
  show OGo p e below s _ _ (T4.setTop (mkF m 16 #[.val (.ref a1), .val (.int (0 : Int32)), .val (.int (Int32.ofNat n)), .val (.ref t1), .val (.int (Int32.ofNat n)), .unset] [(.int (Int32.ofNat n))]))
  refine own_st (fun t k => XS.iloadN X4.here hx rfl (hb hby d5_16) rfl k) ?_
  show OGo p e below s _ _ (T4.setTop (mkF m 17 #[.val (.ref a1), .val (.int (0 : Int32)), .val (.int (Int32.ofNat n)), .val (.ref t1), .val (.int (Int32.ofNat n)), .unset] [(.int (Int32.ofNat n)), (.int (Int32.ofNat n))]))
  refine own_st (fun t k => XS.icmpYes X4.here hx rfl (pc0 := 17) (pc' := 57) rfl (hb hby d5_17) rfl (teq (rfl)).1 (by decide) (by decide) k) ?_
  show OGo p e below s _ _ (T4.setTop (mkF m 57 #[.val (.ref a1), .val (.int (0 : Int32)), .val (.int (Int32.ofNat n)), .val (.ref t1), .val (.int (Int32.ofNat n)), .unset] []))
  refine own_st (fun t k => XS.aloadN X4.here hx rfl (hb hby d5_57) rfl rfl k) ?_
  show OGo p e below s _ _ (T4.setTop (mkF m 58 #[.val (.ref a1), .val (.int (0 : Int32)), .val (.int (Int32.ofNat n)), .val (.ref t1), .val (.int (Int32.ofNat n)), .unset] [(.ref t1)]))
  exact own_retA X4 hx hlk hret rfl rfl (hb hby d5_58) (by decide) (by decide) (⟨t1, rfl, Nr4, K0, fr_t1, A_t1⟩)
theorem own_len (n : Nat) : n.toInt32 = Int32.ofNat n := rfl
theorem own_cfa (x : Int32) : (((x - x).toUInt32 >>> ((31 : Int32) &&& 31).toUInt32).toInt32).toInt8.toInt32 = 0 := by rw [Int32.sub_self]; decide
theorem d7_0 : decode jdk_52_method_15_code 0 = .ok (.iload_n 1, 1) := by decide +kernel
theorem d7_1 : decode jdk_52_method_15_code 1 = .ok (.aload_n 0, 1) := by decide +kernel
theorem d7_2 : decode jdk_52_method_15_code 2 = .ok (.arraylength, 1) := by decide +kernel
theorem d7_3 : decode jdk_52_method_15_code 3 = .ok (.isub, 1) := by decide +kernel
theorem d7_4 : decode jdk_52_method_15_code 4 = .ok (.bipush 31, 2) := by decide +kernel
theorem d7_6 : decode jdk_52_method_15_code 6 = .ok (.iushr, 1) := by decide +kernel
theorem d7_7 : decode jdk_52_method_15_code 7 = .ok (.i2b, 1) := by decide +kernel
theorem d7_8 : decode jdk_52_method_15_code 8 = .ok (.ireturn, 1) := by decide +kernel
theorem ef_7_RI (m : MethodId) (x0 : Addr) (x1 : Int32) : entryFrame m #[(.ref x0), (.int x1)] 2 = mkF m 0 #[.val (.ref x0), .val (.int x1)] [] := by first | (simp [entryFrame, mkF, argsToLocals, Value.category]; done) | rfl
set_option maxRecDepth 65536 in
set_option maxHeartbeats 40000000 in
theorem sc3 (l : Launch) (Z : State) (a0 : Array Value) (hw : ∀ d ∈ tables_1, d.before a0 Z = true) (a1 : Addr) (n : Nat) (gf : Nat → Value) (h0 : Heap) (A_a1 : OAr Z h0 a1 .byte n gf) :
    OPure l Z (⟨"java/lang/StringUTF16", "coderFromArrayLen", "([BI)B"⟩ : MethodName) jdk_52_method_15_code 2 (some .byte) [] ({ frames := 0, cells := 0, slots := 0, locals := 0 } : Room) #[(.ref a1), (.int (Int32.ofNat n))] h0 (some (.int (0 : Int32))) := by
  refine own_body (plainFor_of_name pn_java_lang_StringUTF16) (fun m => ef_7_RI m a1 (Int32.ofNat n)) ?_
  intro p e s m below meth c T0 hx hby hml hown hnm hret hlk hZ X0 e0
  have hown : s.vm.findClass "java/lang/StringUTF16" = some m.cls := hown
  have hml : c.maxLocals = 2 := hml
  show OGo p e below s _ _ (T0.setTop (mkF m 0 #[.val (.ref a1), .val (.int (Int32.ofNat n))] []))
  refine own_st (fun t k => XS.iloadN X0.here hx rfl (hb hby d7_0) rfl k) ?_
  show OGo p e below s _ _ (T0.setTop (mkF m 1 #[.val (.ref a1), .val (.int (Int32.ofNat n))] [(.int (Int32.ofNat n))]))
  refine own_st (fun t k => XS.aloadN X0.here hx rfl (hb hby d7_1) rfl rfl k) ?_
  show OGo p e below s _ _ (T0.setTop (mkF m 2 #[.val (.ref a1), .val (.int (Int32.ofNat n))] [(.ref a1), (.int (Int32.ofNat n))]))
  obtain ⟨cl5, Ar5, Sz5, -⟩ := id A_a1
  refine own_st (X0.arraylength hx (by rw [e0]; exact Ar5.1) (State.isArrayOf_alike hZ.alike Ar5.2.1) (g := (mkF m 2 #[.val (.ref a1), .val (.int (Int32.ofNat n))] [(.ref a1), (.int (Int32.ofNat n))])) rfl rfl (hb hby d7_2)) ?_
  rw [Sz5, own_len n]
  show OGo p e below s _ _ (T0.setTop (mkF m 3 #[.val (.ref a1), .val (.int (Int32.ofNat n))] [(.int (Int32.ofNat n)), (.int (Int32.ofNat n))]))
  refine own_st (fun t k => XS.isub X0.here hx rfl (hb hby d7_3) rfl k) ?_
  show OGo p e below s _ _ (T0.setTop (mkF m 4 #[.val (.ref a1), .val (.int (Int32.ofNat n))] [(.int ((Int32.ofNat n) - (Int32.ofNat n)))]))
  refine own_st (fun t k => XS.bipush X0.here hx rfl (hb hby d7_4) k) ?_
  show OGo p e below s _ _ (T0.setTop (mkF m 6 #[.val (.ref a1), .val (.int (Int32.ofNat n))] [(.int (31 : Int32)), (.int ((Int32.ofNat n) - (Int32.ofNat n)))]))
  refine own_st (fun t k => XS.iushr X0.here hx rfl (hb hby d7_6) rfl k) ?_
  show OGo p e below s _ _ (T0.setTop (mkF m 7 #[.val (.ref a1), .val (.int (Int32.ofNat n))] [(.int ((((Int32.ofNat n) - (Int32.ofNat n)).toUInt32 >>> ((31 : Int32) &&& 31).toUInt32).toInt32))]))
  refine own_st (fun t k => XS.i2b X0.here hx rfl (hb hby d7_7) rfl k) ?_
  show OGo p e below s _ _ (T0.setTop (mkF m 8 #[.val (.ref a1), .val (.int (Int32.ofNat n))] [(.int ((((Int32.ofNat n) - (Int32.ofNat n)).toUInt32 >>> ((31 : Int32) &&& 31).toUInt32).toInt32).toInt8.toInt32)]))
  rw [own_cfa]
  exact own_retN X0 hx hlk (t := .byte) hret (by simp) (hb hby d7_8) (by decide) (by decide) (⟨rfl, rfl, e0⟩)
theorem own_nz {n : Nat} (h : 0 < n) (hn : n < 2 ^ 31) : ¬ Int32.ofNat n = 0 := fun q => by
  have e := (own_nat hn).2.2
  rw [q, show (0 : Int32).toInt = 0 from by decide] at e
  omega
theorem d3_0 : decode jdk_42_method_149_code 0 = .ok (.aload_n 0, 1) := by decide +kernel
theorem d3_1 : decode jdk_42_method_149_code 1 = .ok (.invokespecial 1, 3) := by decide +kernel
theorem d3_4 : decode jdk_42_method_149_code 4 = .ok (.iload_n 3, 1) := by decide +kernel
theorem d3_5 : decode jdk_42_method_149_code 5 = .ok (.ifCond .ne 22, 3) := by decide +kernel
theorem d3_27 : decode jdk_42_method_149_code 27 = .ok (.getstatic 38, 3) := by decide +kernel
theorem d3_30 : decode jdk_42_method_149_code 30 = .ok (.ifCond .eq 28, 3) := by decide +kernel
theorem d3_33 : decode jdk_42_method_149_code 33 = .ok (.aload_n 1, 1) := by decide +kernel
theorem d3_34 : decode jdk_42_method_149_code 34 = .ok (.iload_n 2, 1) := by decide +kernel
theorem d3_35 : decode jdk_42_method_149_code 35 = .ok (.iload_n 3, 1) := by decide +kernel
theorem d3_36 : decode jdk_42_method_149_code 36 = .ok (.invokestatic 177, 3) := by decide +kernel
theorem pd_1 : parseMethodDescriptor "([CII)[B" = some ⟨[(.array .char), .int, .int], some (.array .byte)⟩ := by decide +kernel
theorem d3_39 : decode jdk_42_method_149_code 39 = .ok (.astore 5, 2) := by decide +kernel
theorem d3_41 : decode jdk_42_method_149_code 41 = .ok (.aload_n 0, 1) := by decide +kernel
theorem d3_42 : decode jdk_42_method_149_code 42 = .ok (.aload 5, 2) := by decide +kernel
theorem d3_44 : decode jdk_42_method_149_code 44 = .ok (.iload_n 3, 1) := by decide +kernel
theorem d3_45 : decode jdk_42_method_149_code 45 = .ok (.invokestatic 47, 3) := by decide +kernel
theorem pd_2 : parseMethodDescriptor "([BI)B" = some ⟨[(.array .byte), .int], some .byte⟩ := by decide +kernel
theorem d3_48 : decode jdk_42_method_149_code 48 = .ok (.putfield 15, 3) := by decide +kernel
theorem d3_51 : decode jdk_42_method_149_code 51 = .ok (.aload_n 0, 1) := by decide +kernel
theorem d3_52 : decode jdk_42_method_149_code 52 = .ok (.aload 5, 2) := by decide +kernel
theorem d3_54 : decode jdk_42_method_149_code 54 = .ok (.putfield 9, 3) := by decide +kernel
theorem d3_57 : decode jdk_42_method_149_code 57 = .ok (.return_, 1) := by decide +kernel
theorem pn_java_lang_String : plainName "java/lang/String" = true := by first | (simp [plainName, overriddenIn]; done) | decide +kernel
theorem ef_3_RRII0 (m : MethodId) (x0 : Addr) (x1 : Addr) (x2 : Int32) (x3 : Int32) : entryFrame m #[(.ref x0), (.ref x1), (.int x2), (.int x3), .null] 6 = mkF m 0 #[.val (.ref x0), .val (.ref x1), .val (.int x2), .val (.int x3), .val .null, .unset] [] := by first | (simp [entryFrame, mkF, argsToLocals, Value.category]; done) | rfl
set_option maxRecDepth 65536 in
set_option maxHeartbeats 40000000 in
theorem sc4 (l : Launch) (Z : State) (a0 : Array Value) (hw : ∀ d ∈ tables_1, d.before a0 Z = true) (a1 : Addr) (a2 : Addr) (n : Nat) (cf : Nat → Int32) (cs : Int32) (h0 : Heap) (n0 : Nat) (Z0 : n0 ≤ h0.size) (old_a1 : n0 ≤ a1) (ne_a2_a1 : a2 ≠ a1) (E_a1 : Exa Z h0 a1 "java/lang/String") (F_coder_a1 : Fld Z h0 a1 "java/lang/String" "coder" "B" (.int (0 : Int32))) (F_value_a1 : Fld Z h0 a1 "java/lang/String" "value" "[B" .null) (A_a2 : OAr Z h0 a2 .char n (fun j => .int (cf j))) (S_COMPACT_STRINGS : Sta Z h0 "java/lang/String" "COMPACT_STRINGS" "Z" (.int cs)) (hn : n ≤ 2) (h1 : 0 < n) (hc : ∀ j, j < n → ¬ (255 : Int32) < cf j) (hcs : ¬ cs = (0 : Int32)) :
    OMet l Z (⟨"java/lang/String", "<init>", "([CIILjava/lang/Void;)V"⟩ : MethodName) jdk_42_method_149_code 6 none [] ({ frames := 2, cells := 1, slots := 2, locals := 35 } : Room) #[(.ref a1), (.ref a2), (.int (0 : Int32)), (.int (Int32.ofNat n)), .null] h0 (fun v h' L => ∃ t1 : Addr, v = none ∧ Fr n0 L ∧ Keep h0 h' [a1] ∧ h0.size ≤ t1 ∧ Exa Z h' a1 "java/lang/String" ∧ Fld Z h' a1 "java/lang/String" "coder" "B" (.int (0 : Int32)) ∧ Fld Z h' a1 "java/lang/String" "value" "[B" (.ref t1) ∧ OAr Z h' t1 .byte n (fun j => .int (own_lb (cf j)))) := by
  refine own_body (plainFor_of_name pn_java_lang_String) (fun m => ef_3_RRII0 m a1 a2 (0 : Int32) (Int32.ofNat n)) ?_
  intro p e s m below meth c T0 hx hby hml hown hnm hret hlk hZ X0 e0
  have hown : s.vm.findClass "java/lang/String" = some m.cls := hown
  have hml : c.maxLocals = 6 := hml
  have N0 := Fr.nil n0
  have K0 := Keep.refl h0 [a1]
  show OGo p e below s _ _ (T0.setTop (mkF m 0 #[.val (.ref a1), .val (.ref a2), .val (.int (0 : Int32)), .val (.int (Int32.ofNat n)), .val .null, .unset] []))
  refine own_st (fun t k => XS.aloadN X0.here hx rfl (hb hby d3_0) rfl rfl k) ?_
  show OGo p e below s _ _ (T0.setTop (mkF m 1 #[.val (.ref a1), .val (.ref a2), .val (.int (0 : Int32)), .val (.int (Int32.ofNat n)), .val .null, .unset] [(.ref a1)]))
  obtain ⟨T6, X6, e6, st6⟩ := initO X0 hx hZ hown (hw _ (List.mem_of_getElem? (i := 19) rfl)) (hw _ (List.mem_of_getElem? (i := 20) rfl)) (hw _ (List.mem_of_getElem? (i := 21) rfl)) e0 (g := (mkF m 1 #[.val (.ref a1), .val (.ref a2), .val (.int (0 : Int32)), .val (.int (Int32.ofNat n)), .val .null, .unset] [(.ref a1)])) rfl (by rw [hml]; rfl) rfl (hb hby d3_1) (by decide) (W := 0) (by show 2 * 0 + _ ≤ _; exact Nat.le_of_eq rfl) (by decide)
  refine own_st st6 ?_
  show OGo p e below s _ _ (T6.setTop (mkF m 4 #[.val (.ref a1), .val (.ref a2), .val (.int (0 : Int32)), .val (.int (Int32.ofNat n)), .val .null, .unset] []))
  refine own_st (fun t k => XS.iloadN X6.here hx rfl (hb hby d3_4) rfl k) ?_
  show OGo p e below s _ _ (T6.setTop (mkF m 5 #[.val (.ref a1), .val (.ref a2), .val (.int (0 : Int32)), .val (.int (Int32.ofNat n)), .val .null, .unset] [(.int (Int32.ofNat n))]))
  refine own_st (fun t k => XS.ifYes X6.here hx rfl (pc0 := 5) (pc' := 27) rfl (hb hby d3_5) rfl ((if0 _ _).trans (feq ((own_nz h1 (by omega)))).2) (by decide) (by decide) k) ?_
  show OGo p e below s _ _ (T6.setTop (mkF m 27 #[.val (.ref a1), .val (.ref a2), .val (.int (0 : Int32)), .val (.int (Int32.ofNat n)), .val .null, .unset] []))
  obtain ⟨T7, X7, e7, st7⟩ := getS2 X6 hx hZ hown (host := "") (Or.inl (hw _ (List.mem_of_getElem? (i := 22) rfl))) Via.refl e6 S_COMPACT_STRINGS (g := (mkF m 27 #[.val (.ref a1), .val (.ref a2), .val (.int (0 : Int32)), .val (.int (Int32.ofNat n)), .val .null, .unset] [])) rfl (hb hby d3_27)
  refine own_st st7 ?_
  show OGo p e below s _ _ (T7.setTop (mkF m 30 #[.val (.ref a1), .val (.ref a2), .val (.int (0 : Int32)), .val (.int (Int32.ofNat n)), .val .null, .unset] [(.int cs)]))
  refine own_st (fun t k => XS.ifNo X7.here hx rfl (hb hby d3_30) rfl ((if0 _ _).trans (feq (hcs)).1) k) ?_
  show OGo p e below s _ _ (T7.setTop (mkF m 33 #[.val (.ref a1), .val (.ref a2), .val (.int (0 : Int32)), .val (.int (Int32.ofNat n)), .val .null, .unset] []))
  refine own_st (fun t k => XS.aloadN X7.here hx rfl (hb hby d3_33) rfl rfl k) ?_
  show OGo p e below s _ _ (T7.setTop (mkF m 34 #[.val (.ref a1), .val (.ref a2), .val (.int (0 : Int32)), .val (.int (Int32.ofNat n)), .val .null, .unset] [(.ref a2)]))
  refine own_st (fun t k => XS.iloadN X7.here hx rfl (hb hby d3_34) rfl k) ?_
  show OGo p e below s _ _ (T7.setTop (mkF m 35 #[.val (.ref a1), .val (.ref a2), .val (.int (0 : Int32)), .val (.int (Int32.ofNat n)), .val .null, .unset] [(.int (0 : Int32)), (.ref a2)]))
  refine own_st (fun t k => XS.iloadN X7.here hx rfl (hb hby d3_35) rfl k) ?_
  show OGo p e below s _ _ (T7.setTop (mkF m 36 #[.val (.ref a1), .val (.ref a2), .val (.int (0 : Int32)), .val (.int (Int32.ofNat n)), .val .null, .unset] [(.int (Int32.ofNat n)), (.int (0 : Int32)), (.ref a2)]))
  obtain ⟨_, T8, Lc8, X8, hQ8, st8⟩ := own_callS X7 hx hZ (y := (⟨"java/lang/StringUTF16", "compress", "([CII)[B"⟩ : MethodName)) (W := 0) hown (hw _ (List.mem_of_getElem? (i := 23) rfl)) (hw _ (List.mem_of_getElem? (i := 24) rfl)) (hw _ (List.mem_of_getElem? (i := 25) rfl)) (hw _ (List.mem_of_getElem? (i := 26) rfl)) (by decide) (sc2 l Z a0 hw a2 n cf h0 n0 Z0 A_a2 hn h1 hc) (by decide) (by decide) (g := (mkF m 36 #[.val (.ref a1), .val (.ref a2), .val (.int (0 : Int32)), .val (.int (Int32.ofNat n)), .val .null, .unset] [(.int (Int32.ofNat n)), (.int (0 : Int32)), (.ref a2)])) rfl (by rw [hml]; rfl) (argsL := [(.ref a2), (.int (0 : Int32)), (.int (Int32.ofNat n))]) (rest := []) (lenOf pd_1 rfl) rfl (by show 2 * 0 + _ ≤ _; exact Nat.le_of_eq rfl) (hb hby d3_36) rfl e7 (by decide) (by decide)
  obtain ⟨t1, rfl, Nq8, Kq8, fq8_t1, q8_0⟩ := hQ8
  have ne_a1_t1 : a1 ≠ t1 := Nat.ne_of_lt (Nat.lt_of_lt_of_le E_a1.lt fq8_t1)
  have ne_a2_t1 : a2 ≠ t1 := Nat.ne_of_lt (Nat.lt_of_lt_of_le A_a2.lt fq8_t1)
  have old_t1 : n0 ≤ t1 := Nat.le_trans Z0 fq8_t1
  have fr_t1 : h0.size ≤ t1 := Nat.le_trans K0.1 fq8_t1
  have hpl_Kq8 : ∀ w ∈ ([] : List Addr), ∃ c : Cell, h0[w]? = some c ∧ c.vm.isStatics = false := all0
  have Z0 := Nat.le_trans Z0 Kq8.1
  have K0 := K0.trans Kq8 all0
  have E_a1 := E_a1.keep Kq8
  have F_coder_a1 := F_coder_a1.keep Kq8 nin0
  have F_value_a1 := F_value_a1.keep Kq8 nin0
  have A_a2 := A_a2.keep Kq8 nin0
  have S_COMPACT_STRINGS := own_sta_keep S_COMPACT_STRINGS Kq8 hpl_Kq8
  have Nr8 := Fr.app N0 Nq8
  have A_t1 := q8_0
  refine own_st st8 ?_
  show OGo p e below s _ _ (T8.setTop (mkF m 39 #[.val (.ref a1), .val (.ref a2), .val (.int (0 : Int32)), .val (.int (Int32.ofNat n)), .val .null, .unset] [(.ref t1)]))
  refine own_st (fun t k => XS.astore X8.here hx rfl (hb hby d3_39) rfl rfl (l' := #[.val (.ref a1), .val (.ref a2), .val (.int (0 : Int32)), .val (.int (Int32.ofNat n)), .val .null, .val (.ref t1)]) rfl k) ?_
  show OGo p e below s _ _ (T8.setTop (mkF m 41 #[.val (.ref a1), .val (.ref a2), .val (.int (0 : Int32)), .val (.int (Int32.ofNat n)), .val .null, .val (.ref t1)] []))
  refine own_st (fun t k => XS.aloadN X8.here hx rfl (hb hby d3_41) rfl rfl k) ?_
  show OGo p e below s _ _ (T8.setTop (mkF m 42 #[.val (.ref a1), .val (.ref a2), .val (.int (0 : Int32)), .val (.int (Int32.ofNat n)), .val .null, .val (.ref t1)] [(.ref a1)]))
  refine own_st (fun t k => XS.aload X8.here hx rfl (hb hby d3_42) rfl rfl k) ?_
  show OGo p e below s _ _ (T8.setTop (mkF m 44 #[.val (.ref a1), .val (.ref a2), .val (.int (0 : Int32)), .val (.int (Int32.ofNat n)), .val .null, .val (.ref t1)] [(.ref t1), (.ref a1)]))
  refine own_st (fun t k => XS.iloadN X8.here hx rfl (hb hby d3_44) rfl k) ?_
  show OGo p e below s _ _ (T8.setTop (mkF m 45 #[.val (.ref a1), .val (.ref a2), .val (.int (0 : Int32)), .val (.int (Int32.ofNat n)), .val .null, .val (.ref t1)] [(.int (Int32.ofNat n)), (.ref t1), (.ref a1)]))
  obtain ⟨T9, X9, e9, st9⟩ := own_callSP X8 hx hZ (y := (⟨"java/lang/StringUTF16", "coderFromArrayLen", "([BI)B"⟩ : MethodName)) (W := 1) hown (hw _ (List.mem_of_getElem? (i := 31) rfl)) (hw _ (List.mem_of_getElem? (i := 32) rfl)) (hw _ (List.mem_of_getElem? (i := 25) rfl)) (hw _ (List.mem_of_getElem? (i := 33) rfl)) (by decide) (sc3 l Z a0 hw t1 n (fun j => .int (own_lb (cf j))) T8.heap A_t1) (by decide) (by decide) (g := (mkF m 45 #[.val (.ref a1), .val (.ref a2), .val (.int (0 : Int32)), .val (.int (Int32.ofNat n)), .val .null, .val (.ref t1)] [(.int (Int32.ofNat n)), (.ref t1), (.ref a1)])) rfl (by rw [hml]; rfl) (argsL := [(.ref t1), (.int (Int32.ofNat n))]) (rest := [(.ref a1)]) (lenOf pd_2 rfl) rfl (by show 2 * 0 + _ ≤ _; exact Nat.le_of_eq rfl) (hb hby d3_45) rfl rfl (by decide) (by decide)
  refine own_st st9 ?_
  show OGo p e below s _ _ (T9.setTop (mkF m 48 #[.val (.ref a1), .val (.ref a2), .val (.int (0 : Int32)), .val (.int (Int32.ofNat n)), .val .null, .val (.ref t1)] [(.int (0 : Int32)), (.ref a1)]))
  obtain ⟨T10, hp10, X10, e10, Ww10, st10⟩ := putFN X9 hx hZ hown (hw _ (List.mem_of_getElem? (i := 34) rfl)) Via.refl e9 F_coder_a1 E_a1 (Or.inr ⟨(hw _ (List.mem_of_getElem? (i := 35) rfl)), rfl, hnm⟩) (hw _ (List.mem_of_getElem? (i := 10) rfl)) (ty := .byte) (v' := (.int (0 : Int32))) (by decide) rfl (by decide) (g := (mkF m 48 #[.val (.ref a1), .val (.ref a2), .val (.int (0 : Int32)), .val (.int (Int32.ofNat n)), .val .null, .val (.ref t1)] [(.int (0 : Int32)), (.ref a1)])) rfl rfl (hb hby d3_48)
  have Nf10 := Fr.snoc X10 Nr8 old_a1
  have Z0 := Nat.le_trans Z0 (Keep.of_wr Ww10).1
  have K0 := K0.wr Ww10 (Or.inl (List.mem_of_getElem? (i := 0) rfl))
  have E_a1 := E_a1.wr Ww10
  have F_coder_a1 := F_coder_a1.same Ww10
  have F_value_a1 := F_value_a1.other Ww10 (Or.inr (slot_ne (Or.inr (hw _ (List.mem_of_getElem? (i := 37) rfl))) (Or.inr (hw _ (List.mem_of_getElem? (i := 35) rfl))) (by decide) (t := (.array .byte)) (t' := .byte) (by decide) (by decide)))
  have A_a2 := A_a2.other Ww10 ne_a2_a1
  have S_COMPACT_STRINGS := S_COMPACT_STRINGS.wr Ww10
  have A_t1 := A_t1.other Ww10 (Ne.symm ne_a1_t1)
  refine own_st st10 ?_
  show OGo p e below s _ _ (T10.setTop (mkF m 51 #[.val (.ref a1), .val (.ref a2), .val (.int (0 : Int32)), .val (.int (Int32.ofNat n)), .val .null, .val (.ref t1)] []))
  refine own_st (fun t k => XS.aloadN X10.here hx rfl (hb hby d3_51) rfl rfl k) ?_
  show OGo p e below s _ _ (T10.setTop (mkF m 52 #[.val (.ref a1), .val (.ref a2), .val (.int (0 : Int32)), .val (.int (Int32.ofNat n)), .val .null, .val (.ref t1)] [(.ref a1)]))
  refine own_st (fun t k => XS.aload X10.here hx rfl (hb hby d3_52) rfl rfl k) ?_
  show OGo p e below s _ _ (T10.setTop (mkF m 54 #[.val (.ref a1), .val (.ref a2), .val (.int (0 : Int32)), .val (.int (Int32.ofNat n)), .val .null, .val (.ref t1)] [(.ref t1), (.ref a1)]))
  obtain ⟨T11, hp11, X11, e11, Ww11, st11⟩ := putF X10 hx hZ hown (host := "") (Or.inl (hw _ (List.mem_of_getElem? (i := 36) rfl))) Via.refl e10 F_value_a1 E_a1 (Or.inr ⟨(hw _ (List.mem_of_getElem? (i := 37) rfl)), rfl, hnm⟩) (hw _ (List.mem_of_getElem? (i := 10) rfl)) (ty := (.array .byte)) (by decide) rfl rfl (g := (mkF m 54 #[.val (.ref a1), .val (.ref a2), .val (.int (0 : Int32)), .val (.int (Int32.ofNat n)), .val .null, .val (.ref t1)] [(.ref t1), (.ref a1)])) rfl rfl (hb hby d3_54)
  have Nf11 := Fr.snoc X11 Nf10 old_a1
  have Z0 := Nat.le_trans Z0 (Keep.of_wr Ww11).1
  have K0 := K0.wr Ww11 (Or.inl (List.mem_of_getElem? (i := 0) rfl))
  have E_a1 := E_a1.wr Ww11
  have F_coder_a1 := F_coder_a1.other Ww11 (Or.inr (slot_ne (Or.inr (hw _ (List.mem_of_getElem? (i := 35) rfl))) (Or.inr (hw _ (List.mem_of_getElem? (i := 37) rfl))) (by decide) (t := .byte) (t' := (.array .byte)) (by decide) (by decide)))
  have F_value_a1 := F_value_a1.same Ww11
  have A_a2 := A_a2.other Ww11 ne_a2_a1
  have S_COMPACT_STRINGS := S_COMPACT_STRINGS.wr Ww11
  have A_t1 := A_t1.other Ww11 (Ne.symm ne_a1_t1)
  refine own_st st11 ?_
  show OGo p e below s _ _ (T11.setTop (mkF m 57 #[.val (.ref a1), .val (.ref a2), .val (.int (0 : Int32)), .val (.int (Int32.ofNat n)), .val .null, .val (.ref t1)] []))
  exact own_retV X11 hx hlk hret (hb hby d3_57) (by decide) (by decide) (⟨t1, rfl, Nf11, (by rw [e11]; exact K0), fr_t1, (by rw [e11]; exact E_a1), (by rw [e11]; exact F_coder_a1), (by rw [e11]; exact F_value_a1), (by rw [e11]; exact A_t1)⟩)
theorem d2_0 : decode jdk_42_method_3_code 0 = .ok (.aload_n 0, 1) := by decide +kernel
theorem d2_1 : decode jdk_42_method_3_code 1 = .ok (.aload_n 1, 1) := by decide +kernel
theorem d2_2 : decode jdk_42_method_3_code 2 = .ok (.iconst 0, 1) := by decide +kernel
theorem d2_3 : decode jdk_42_method_3_code 3 = .ok (.aload_n 1, 1) := by decide +kernel
theorem d2_4 : decode jdk_42_method_3_code 4 = .ok (.arraylength, 1) := by decide +kernel
theorem d2_5 : decode jdk_42_method_3_code 5 = .ok (.aconst_null, 1) := by decide +kernel
theorem d2_6 : decode jdk_42_method_3_code 6 = .ok (.invokespecial 27, 3) := by decide +kernel
theorem pd_3 : parseMethodDescriptor "([CIILjava/lang/Void;)V" = some ⟨[(.array .char), .int, .int, (.object "java/lang/Void")], none⟩ := by decide +kernel
theorem d2_9 : decode jdk_42_method_3_code 9 = .ok (.return_, 1) := by decide +kernel
theorem ef_2_RR (m : MethodId) (x0 : Addr) (x1 : Addr) : entryFrame m #[(.ref x0), (.ref x1)] 2 = mkF m 0 #[.val (.ref x0), .val (.ref x1)] [] := by first | (simp [entryFrame, mkF, argsToLocals, Value.category]; done) | rfl
set_option maxRecDepth 65536 in
set_option maxHeartbeats 40000000 in
theorem sc5 (l : Launch) (Z : State) (a0 : Array Value) (hw : ∀ d ∈ tables_1, d.before a0 Z = true) (a1 : Addr) (a2 : Addr) (n : Nat) (cf : Nat → Int32) (cs : Int32) (h0 : Heap) (n0 : Nat) (Z0 : n0 ≤ h0.size) (old_a1 : n0 ≤ a1) (ne_a2_a1 : a2 ≠ a1) (E_a1 : Exa Z h0 a1 "java/lang/String") (F_coder_a1 : Fld Z h0 a1 "java/lang/String" "coder" "B" (.int (0 : Int32))) (F_value_a1 : Fld Z h0 a1 "java/lang/String" "value" "[B" .null) (A_a2 : OAr Z h0 a2 .char n (fun j => .int (cf j))) (S_COMPACT_STRINGS : Sta Z h0 "java/lang/String" "COMPACT_STRINGS" "Z" (.int cs)) (hn : n ≤ 2) (h1 : 0 < n) (hc : ∀ j, j < n → ¬ (255 : Int32) < cf j) (hcs : ¬ cs = (0 : Int32)) :
    OMet l Z (⟨"java/lang/String", "<init>", "([C)V"⟩ : MethodName) jdk_42_method_3_code 2 none [] ({ frames := 3, cells := 1, slots := 2, locals := 52 } : Room) #[(.ref a1), (.ref a2)] h0 (fun v h' L => ∃ t1 : Addr, v = none ∧ Fr n0 L ∧ Keep h0 h' [a1] ∧ h0.size ≤ t1 ∧ Exa Z h' a1 "java/lang/String" ∧ Fld Z h' a1 "java/lang/String" "coder" "B" (.int (0 : Int32)) ∧ Fld Z h' a1 "java/lang/String" "value" "[B" (.ref t1) ∧ OAr Z h' t1 .byte n (fun j => .int (own_lb (cf j)))) := by
  refine own_body (plainFor_of_name pn_java_lang_String) (fun m => ef_2_RR m a1 a2) ?_
  intro p e s m below meth c T0 hx hby hml hown hnm hret hlk hZ X0 e0
  have hown : s.vm.findClass "java/lang/String" = some m.cls := hown
  have hml : c.maxLocals = 2 := hml
  have N0 := Fr.nil n0
  have K0 := Keep.refl h0 [a1]
  show OGo p e below s _ _ (T0.setTop (mkF m 0 #[.val (.ref a1), .val (.ref a2)] []))
  refine own_st (fun t k => XS.aloadN X0.here hx rfl (hb hby d2_0) rfl rfl k) ?_
  show OGo p e below s _ _ (T0.setTop (mkF m 1 #[.val (.ref a1), .val (.ref a2)] [(.ref a1)]))
  refine own_st (fun t k => XS.aloadN X0.here hx rfl (hb hby d2_1) rfl rfl k) ?_
  show OGo p e below s _ _ (T0.setTop (mkF m 2 #[.val (.ref a1), .val (.ref a2)] [(.ref a2), (.ref a1)]))
  refine own_st (fun t k => XS.iconst X0.here hx rfl (hb hby d2_2) k) ?_
  show OGo p e below s _ _ (T0.setTop (mkF m 3 #[.val (.ref a1), .val (.ref a2)] [(.int (0 : Int32)), (.ref a2), (.ref a1)]))
  refine own_st (fun t k => XS.aloadN X0.here hx rfl (hb hby d2_3) rfl rfl k) ?_
  show OGo p e below s _ _ (T0.setTop (mkF m 4 #[.val (.ref a1), .val (.ref a2)] [(.ref a2), (.int (0 : Int32)), (.ref a2), (.ref a1)]))
  obtain ⟨cl12, Ar12, Sz12, -⟩ := id A_a2
  refine own_st (X0.arraylength hx (by rw [e0]; exact Ar12.1) (State.isArrayOf_alike hZ.alike Ar12.2.1) (g := (mkF m 4 #[.val (.ref a1), .val (.ref a2)] [(.ref a2), (.int (0 : Int32)), (.ref a2), (.ref a1)])) rfl rfl (hb hby d2_4)) ?_
  rw [Sz12, own_len n]
  show OGo p e below s _ _ (T0.setTop (mkF m 5 #[.val (.ref a1), .val (.ref a2)] [(.int (Int32.ofNat n)), (.int (0 : Int32)), (.ref a2), (.ref a1)]))
  refine own_st (fun t k => XS.aconstNull X0.here hx rfl (hb hby d2_5) k) ?_
  show OGo p e below s _ _ (T0.setTop (mkF m 6 #[.val (.ref a1), .val (.ref a2)] [.null, (.int (Int32.ofNat n)), (.int (0 : Int32)), (.ref a2), (.ref a1)]))
  obtain ⟨_, T13, Lc13, X13, hQ13, st13⟩ := own_callI X0 hx hZ (y := (⟨"java/lang/String", "<init>", "([CIILjava/lang/Void;)V"⟩ : MethodName)) (W := 0) rfl hown (hw _ (List.mem_of_getElem? (i := 15) rfl)) (hw _ (List.mem_of_getElem? (i := 16) rfl)) (hw _ (List.mem_of_getElem? (i := 18) rfl)) (hw _ (List.mem_of_getElem? (i := 11) rfl)) (by decide) (sc4 l Z a0 hw a1 a2 n cf cs h0 n0 Z0 old_a1 ne_a2_a1 E_a1 F_coder_a1 F_value_a1 A_a2 S_COMPACT_STRINGS hn h1 hc hcs) (by decide) (by decide) (a := a1) (g := (mkF m 6 #[.val (.ref a1), .val (.ref a2)] [.null, (.int (Int32.ofNat n)), (.int (0 : Int32)), (.ref a2), (.ref a1)])) rfl (by rw [hml]; rfl) (argsL := [(.ref a2), (.int (0 : Int32)), (.int (Int32.ofNat n)), .null]) (rest := []) (lenOf pd_3 rfl) rfl (by show 2 * 0 + _ ≤ _; exact Nat.le_of_eq rfl) (hb hby d2_6) rfl e0 (by decide) (by decide)
  obtain ⟨t1, rfl, Nq13, Kq13, fq13_t1, q13_0, q13_1, q13_2, q13_3⟩ := hQ13
  have ne_a1_t1 : a1 ≠ t1 := Nat.ne_of_lt (Nat.lt_of_lt_of_le E_a1.lt fq13_t1)
  have ne_a2_t1 : a2 ≠ t1 := Nat.ne_of_lt (Nat.lt_of_lt_of_le A_a2.lt fq13_t1)
  have old_t1 : n0 ≤ t1 := Nat.le_trans Z0 fq13_t1
  have fr_t1 : h0.size ≤ t1 := Nat.le_trans K0.1 fq13_t1
  have hpl_Kq13 : ∀ w ∈ [a1], ∃ c : Cell, h0[w]? = some c ∧ c.vm.isStatics = false := (allS (own_pl_exa E_a1) all0)
  have Z0 := Nat.le_trans Z0 Kq13.1
  have K0 := K0.trans Kq13 (allS (Or.inl (List.mem_of_getElem? (i := 0) rfl)) all0)
  have A_a2 := A_a2.keep Kq13 (ninS ne_a2_a1 nin0)
  have S_COMPACT_STRINGS := own_sta_keep S_COMPACT_STRINGS Kq13 hpl_Kq13
  have Nr13 := Fr.app N0 Nq13
  have E_a1 := q13_0
  have F_coder_a1 := q13_1
  have F_value_a1 := q13_2
  have A_t1 := q13_3
  refine own_st st13 ?_
  show OGo p e below s _ _ (T13.setTop (mkF m 9 #[.val (.ref a1), .val (.ref a2)] []))
  exact own_retV X13 hx hlk hret (hb hby d2_9) (by decide) (by decide) (⟨t1, rfl, Nr13, K0, fr_t1, E_a1, F_coder_a1, F_value_a1, A_t1⟩)
theorem d11_0 : decode jdk_42_method_152_code 0 = .ok (.getstatic 38, 3) := by decide +kernel
theorem d11_3 : decode jdk_42_method_152_code 3 = .ok (.ifCond .eq 10, 3) := by decide +kernel
theorem d11_6 : decode jdk_42_method_152_code 6 = .ok (.aload_n 0, 1) := by decide +kernel
theorem d11_7 : decode jdk_42_method_152_code 7 = .ok (.getfield 15, 3) := by decide +kernel
theorem d11_10 : decode jdk_42_method_152_code 10 = .ok (.goto 4, 3) := by decide +kernel
theorem d11_14 : decode jdk_42_method_152_code 14 = .ok (.ireturn, 1) := by decide +kernel
theorem ef_11_R (m : MethodId) (x0 : Addr) : entryFrame m #[(.ref x0)] 1 = mkF m 0 #[.val (.ref x0)] [] := by first | (simp [entryFrame, mkF, argsToLocals, Value.category]; done) | rfl
set_option maxRecDepth 65536 in
set_option maxHeartbeats 40000000 in
theorem sc6 (l : Launch) (Z : State) (a0 : Array Value) (hw : ∀ d ∈ tables_1, d.before a0 Z = true) (a1 : Addr) (cs : Int32) (h0 : Heap) (F_coder_a1 : Fld Z h0 a1 "java/lang/String" "coder" "B" (.int (0 : Int32))) (S_COMPACT_STRINGS : Sta Z h0 "java/lang/String" "COMPACT_STRINGS" "Z" (.int cs)) (hcs : ¬ cs = (0 : Int32)) :
    OPure l Z (⟨"java/lang/String", "coder", "()B"⟩ : MethodName) jdk_42_method_152_code 1 (some .byte) [] ({ frames := 0, cells := 0, slots := 0, locals := 0 } : Room) #[(.ref a1)] h0 (some (.int (0 : Int32))) := by
  refine own_body (plainFor_of_name pn_java_lang_String) (fun m => ef_11_R m a1) ?_
  intro p e s m below meth c T0 hx hby hml hown hnm hret hlk hZ X0 e0
  have hown : s.vm.findClass "java/lang/String" = some m.cls := hown
  have hml : c.maxLocals = 1 := hml
  show OGo p e below s _ _ (T0.setTop (mkF m 0 #[.val (.ref a1)] []))
  obtain ⟨T14, X14, e14, st14⟩ := getS2 X0 hx hZ hown (host := "") (Or.inl (hw _ (List.mem_of_getElem? (i := 22) rfl))) Via.refl e0 S_COMPACT_STRINGS (g := (mkF m 0 #[.val (.ref a1)] [])) rfl (hb hby d11_0)
  refine own_st st14 ?_
  show OGo p e below s _ _ (T14.setTop (mkF m 3 #[.val (.ref a1)] [(.int cs)]))
  refine own_st (fun t k => XS.ifNo X14.here hx rfl (hb hby d11_3) rfl ((if0 _ _).trans (feq (hcs)).1) k) ?_
  show OGo p e below s _ _ (T14.setTop (mkF m 6 #[.val (.ref a1)] []))
  refine own_st (fun t k => XS.aloadN X14.here hx rfl (hb hby d11_6) rfl rfl k) ?_
  show OGo p e below s _ _ (T14.setTop (mkF m 7 #[.val (.ref a1)] [(.ref a1)]))
  obtain ⟨T15, X15, e15, st15⟩ := getF X14 hx hZ hown (host := "") (Or.inl (hw _ (List.mem_of_getElem? (i := 34) rfl))) Via.refl e14 F_coder_a1 (g := (mkF m 7 #[.val (.ref a1)] [(.ref a1)])) rfl rfl (hb hby d11_7)
  refine own_st st15 ?_
  show OGo p e below s _ _ (T15.setTop (mkF m 10 #[.val (.ref a1)] [(.int (0 : Int32))]))
  refine own_st (fun t k => XS.goto X15.here hx rfl (pc0 := 10) (pc' := 14) rfl (hb hby d11_10) (by decide) (by decide) k) ?_
  show OGo p e below s _ _ (T15.setTop (mkF m 14 #[.val (.ref a1)] [(.int (0 : Int32))]))
  exact own_retN X15 hx hlk (t := .byte) hret (by simp) (hb hby d11_14) (by decide) (by decide) (⟨rfl, rfl, e15⟩)
theorem d10_0 : decode jdk_42_method_54_code 0 = .ok (.aload_n 0, 1) := by decide +kernel
theorem d10_1 : decode jdk_42_method_54_code 1 = .ok (.getfield 9, 3) := by decide +kernel
theorem d10_4 : decode jdk_42_method_54_code 4 = .ok (.arraylength, 1) := by decide +kernel
theorem d10_5 : decode jdk_42_method_54_code 5 = .ok (.aload_n 0, 1) := by decide +kernel
theorem d10_6 : decode jdk_42_method_54_code 6 = .ok (.invokevirtual 335, 3) := by decide +kernel
theorem pd_4 : parseMethodDescriptor "()B" = some ⟨[], some .byte⟩ := by decide +kernel
theorem d10_9 : decode jdk_42_method_54_code 9 = .ok (.ishr, 1) := by decide +kernel
theorem d10_10 : decode jdk_42_method_54_code 10 = .ok (.ireturn, 1) := by decide +kernel
theorem ef_10_R (m : MethodId) (x0 : Addr) : entryFrame m #[(.ref x0)] 1 = mkF m 0 #[.val (.ref x0)] [] := by first | (simp [entryFrame, mkF, argsToLocals, Value.category]; done) | rfl
set_option maxRecDepth 65536 in
set_option maxHeartbeats 40000000 in
theorem sc7 (l : Launch) (Z : State) (a0 : Array Value) (hw : ∀ d ∈ tables_1, d.before a0 Z = true) (a1 : Addr) (t1 : Addr) (n : Nat) (cf : Nat → Int32) (cs : Int32) (h0 : Heap) (E_a1 : Exa Z h0 a1 "java/lang/String") (F_coder_a1 : Fld Z h0 a1 "java/lang/String" "coder" "B" (.int (0 : Int32))) (F_value_a1 : Fld Z h0 a1 "java/lang/String" "value" "[B" (.ref t1)) (A_t1 : OAr Z h0 t1 .byte n (fun j => .int (own_lb (cf j)))) (S_COMPACT_STRINGS : Sta Z h0 "java/lang/String" "COMPACT_STRINGS" "Z" (.int cs)) (hcs : ¬ cs = (0 : Int32)) :
    OPure l Z (⟨"java/lang/String", "length", "()I"⟩ : MethodName) jdk_42_method_54_code 1 (some .int) [] ({ frames := 1, cells := 0, slots := 0, locals := 13 } : Room) #[(.ref a1)] h0 (some (.int (Int32.ofNat n))) := by
  refine own_body (plainFor_of_name pn_java_lang_String) (fun m => ef_10_R m a1) ?_
  intro p e s m below meth c T0 hx hby hml hown hnm hret hlk hZ X0 e0
  have hown : s.vm.findClass "java/lang/String" = some m.cls := hown
  have hml : c.maxLocals = 1 := hml
  show OGo p e below s _ _ (T0.setTop (mkF m 0 #[.val (.ref a1)] []))
  refine own_st (fun t k => XS.aloadN X0.here hx rfl (hb hby d10_0) rfl rfl k) ?_
  show OGo p e below s _ _ (T0.setTop (mkF m 1 #[.val (.ref a1)] [(.ref a1)]))
  obtain ⟨T16, X16, e16, st16⟩ := getF X0 hx hZ hown (host := "") (Or.inl (hw _ (List.mem_of_getElem? (i := 36) rfl))) Via.refl e0 F_value_a1 (g := (mkF m 1 #[.val (.ref a1)] [(.ref a1)])) rfl rfl (hb hby d10_1)
  refine own_st st16 ?_
  show OGo p e below s _ _ (T16.setTop (mkF m 4 #[.val (.ref a1)] [(.ref t1)]))
  obtain ⟨cl17, Ar17, Sz17, -⟩ := id A_t1
  refine own_st (X16.arraylength hx (by rw [e16]; exact Ar17.1) (State.isArrayOf_alike hZ.alike Ar17.2.1) (g := (mkF m 4 #[.val (.ref a1)] [(.ref t1)])) rfl rfl (hb hby d10_4)) ?_
  rw [Sz17, own_len n]
  show OGo p e below s _ _ (T16.setTop (mkF m 5 #[.val (.ref a1)] [(.int (Int32.ofNat n))]))
  refine own_st (fun t k => XS.aloadN X16.here hx rfl (hb hby d10_5) rfl rfl k) ?_
  show OGo p e below s _ _ (T16.setTop (mkF m 6 #[.val (.ref a1)] [(.ref a1), (.int (Int32.ofNat n))]))
  obtain ⟨T18, X18, e18, st18⟩ := own_callVP X16 hx hZ (y := (⟨"java/lang/String", "coder", "()B"⟩ : MethodName)) (z := (⟨"java/lang/String", "coder", "()B"⟩ : MethodName)) (W := 1) hown (hw _ (List.mem_of_getElem? (i := 59) rfl)) (hw _ (List.mem_of_getElem? (i := 60) rfl)) (notFace_of_selects (args := #[]) (mvT hZ (hw _ (List.mem_of_getElem? (i := 62) rfl)))) (hw _ (List.mem_of_getElem? (i := 62) rfl)) (hw _ (List.mem_of_getElem? (i := 61) rfl)) (hw _ (List.mem_of_getElem? (i := 63) rfl)) (hw _ (List.mem_of_getElem? (i := 11) rfl)) (by decide) (sc6 l Z a0 hw a1 cs h0 F_coder_a1 S_COMPACT_STRINGS hcs) (by decide) (by decide) E_a1 (g := (mkF m 6 #[.val (.ref a1)] [(.ref a1), (.int (Int32.ofNat n))])) rfl (by rw [hml]; rfl) (argsL := []) (rest := [(.int (Int32.ofNat n))]) (lenOf pd_4 rfl) rfl (by show 2 * 0 + _ ≤ _; exact Nat.le_of_eq rfl) (hb hby d10_6) rfl e16 (by decide) (by decide)
  refine own_st st18 ?_
  show OGo p e below s _ _ (T18.setTop (mkF m 9 #[.val (.ref a1)] [(.int (0 : Int32)), (.int (Int32.ofNat n))]))
  refine own_st (fun t k => XS.ishr X18.here hx rfl (hb hby d10_9) rfl k) ?_
  show OGo p e below s _ _ (T18.setTop (mkF m 10 #[.val (.ref a1)] [(.int ((Int32.ofNat n) >>> ((0 : Int32) &&& 31)))]))
  rw [own_shr0]
  exact own_retI X18 hx hlk hret (hb hby d10_10) (by decide) (by decide) (⟨rfl, rfl, e18⟩)
def OCache (Z : State) (h : Heap) (b : Addr) : Prop := ∃ cl : Cell, Arr Z h b cl (.object "java/lang/Long") ∧ cl.slots.size = 256 ∧ ∀ j, j < 256 → ∃ a : Addr, cl.slots[j]? = some (.ref a) ∧ Exa Z h a "java/lang/Long" ∧ Fld Z h a "java/lang/Long" "value" "J" (.long (Int32.ofNat j - (128 : Int32)).toInt64)
theorem own_cix (q : Int64) (h1 : ¬ q < (-128 : Int64)) (h2 : ¬ (127 : Int64) < q) : ∃ j : Nat, j < 256 ∧ q.toInt32 + (128 : Int32) = Int32.ofNat j ∧ (Int32.ofNat j - (128 : Int32)).toInt64 = q := by
  have e1 : (-128 : Int64).toInt = -128 := by decide
  have e2 : (127 : Int64).toInt = 127 := by decide
  have e3 : (128 : Int32).toInt = 128 := by decide
  rw [Int64.lt_iff_toInt_lt] at h1 h2
  have a := c_l2i q
  have r := rng32 q.toInt32
  have b := c_iadd q.toInt32 128
  have r2 := rng32 (q.toInt32 + 128)
  refine ⟨(q.toInt + 128).toNat, by omega, Int32.toInt_inj.mp ?_, Int64.toInt_inj.mp ?_⟩
  · rw [(own_nat (by omega)).2.2]; omega
  · have n := (own_nat (i := (q.toInt + 128).toNat) (by omega)).2.2
    generalize Int32.ofNat (q.toInt + 128).toNat = y at *
    have c := c_isub y 128
    have r3 := rng32 (y - 128)
    rw [c_i2l]; omega
def own_c2 (x y : Int32) : Nat → Int32 := fun j => if j = 0 then x else y
theorem own_255 (q : Int32) : ¬ (255 : Int32) < nar .char (q &&& (255 : Int32)).toUInt32.toUInt16.toUInt32.toInt32 := by
  rw [i2c_mask]
  show ¬ (255 : Int32) < (q &&& (255 : Int32)).toUInt32.toUInt16.toUInt32.toInt32
  rw [i2c_mask]
  have h := c_mask q (255 : Int32) 8 (by decide) (by decide)
  have e : (255 : Int32).toInt = 255 := by decide
  rw [Int32.lt_iff_toInt_lt]; omega
theorem own_c2le (x y : Int32) (h1 : ¬ (255 : Int32) < x) (h2 : ¬ (255 : Int32) < y) : ∀ j, j < 2 → ¬ (255 : Int32) < own_c2 x y j := fun j _ => by
  unfold own_c2; split
  · exact h1
  · exact h2
theorem d13_0 : decode jdk_18_method_1_code 0 = .ok (.aload_n 0, 1) := by decide +kernel
theorem d13_1 : decode jdk_18_method_1_code 1 = .ok (.invokespecial 1, 3) := by decide +kernel
theorem d13_4 : decode jdk_18_method_1_code 4 = .ok (.return_, 1) := by decide +kernel
theorem pn_java_lang_Number : plainName "java/lang/Number" = true := by first | (simp [plainName, overriddenIn]; done) | decide +kernel
theorem ef_13_R (m : MethodId) (x0 : Addr) : entryFrame m #[(.ref x0)] 1 = mkF m 0 #[.val (.ref x0)] [] := by first | (simp [entryFrame, mkF, argsToLocals, Value.category]; done) | rfl
set_option maxRecDepth 65536 in
set_option maxHeartbeats 40000000 in
theorem rn1 (l : Launch) (Z : State) (a0 : Array Value) (hw : ∀ d ∈ tables_1, d.before a0 Z = true) (a1 : Addr) (h0 : Heap) :
    OPure l Z (⟨"java/lang/Number", "<init>", "()V"⟩ : MethodName) jdk_18_method_1_code 1 none [] ({ frames := 1, cells := 0, slots := 0, locals := 12 } : Room) #[(.ref a1)] h0 (none) := by
  refine own_body (plainFor_of_name pn_java_lang_Number) (fun m => ef_13_R m a1) ?_
  intro p e s m below meth c T0 hx hby hml hown hnm hret hlk hZ X0 e0
  have hown : s.vm.findClass "java/lang/Number" = some m.cls := hown
  have hml : c.maxLocals = 1 := hml
  show OGo p e below s _ _ (T0.setTop (mkF m 0 #[.val (.ref a1)] []))
  refine own_st (fun t k => XS.aloadN X0.here hx rfl (hb hby d13_0) rfl rfl k) ?_
  show OGo p e below s _ _ (T0.setTop (mkF m 1 #[.val (.ref a1)] [(.ref a1)]))
  obtain ⟨T19, X19, e19, st19⟩ := initO X0 hx hZ hown (hw _ (List.mem_of_getElem? (i := 75) rfl)) (hw _ (List.mem_of_getElem? (i := 20) rfl)) (hw _ (List.mem_of_getElem? (i := 21) rfl)) e0 (g := (mkF m 1 #[.val (.ref a1)] [(.ref a1)])) rfl (by rw [hml]; rfl) rfl (hb hby d13_1) (by decide) (W := 0) (by show 2 * 0 + _ ≤ _; exact Nat.le_of_eq rfl) (by decide)
  refine own_st st19 ?_
  show OGo p e below s _ _ (T19.setTop (mkF m 4 #[.val (.ref a1)] []))
  exact own_retV X19 hx hlk hret (hb hby d13_4) (by decide) (by decide) (⟨rfl, rfl, e19⟩)
theorem d12_0 : decode jdk_35_method_26_code 0 = .ok (.aload_n 0, 1) := by decide +kernel
theorem d12_1 : decode jdk_35_method_26_code 1 = .ok (.invokespecial 270, 3) := by decide +kernel
theorem pd_5 : parseMethodDescriptor "()V" = some ⟨[], none⟩ := by decide +kernel
theorem d12_4 : decode jdk_35_method_26_code 4 = .ok (.aload_n 0, 1) := by decide +kernel
theorem d12_5 : decode jdk_35_method_26_code 5 = .ok (.lload_n 1, 1) := by decide +kernel
theorem d12_6 : decode jdk_35_method_26_code 6 = .ok (.putfield 273, 3) := by decide +kernel
theorem d12_9 : decode jdk_35_method_26_code 9 = .ok (.return_, 1) := by decide +kernel
theorem pn_java_lang_Long : plainName "java/lang/Long" = true := by first | (simp [plainName, overriddenIn]; done) | decide +kernel
theorem ef_12_RJ (m : MethodId) (x0 : Addr) (x1 : Int64) : entryFrame m #[(.ref x0), (.long x1)] 3 = mkF m 0 #[.val (.ref x0), .val (.long x1), .second] [] := by first | (simp [entryFrame, mkF, argsToLocals, Value.category]; done) | rfl
set_option maxRecDepth 65536 in
set_option maxHeartbeats 40000000 in
theorem rn2 (l : Launch) (Z : State) (a0 : Array Value) (hw : ∀ d ∈ tables_1, d.before a0 Z = true) (a1 : Addr) (q2 : Int64) (h0 : Heap) (n0 : Nat) (Z0 : n0 ≤ h0.size) (old_a1 : n0 ≤ a1) (E_a1 : Exa Z h0 a1 "java/lang/Long") (F_value_a1 : Fld Z h0 a1 "java/lang/Long" "value" "J" (.long (0 : Int64))) :
    OMet l Z (⟨"java/lang/Long", "<init>", "(J)V"⟩ : MethodName) jdk_35_method_26_code 3 none [] ({ frames := 2, cells := 0, slots := 0, locals := 24 } : Room) #[(.ref a1), (.long q2)] h0 (fun v h' L => v = none ∧ Fr n0 L ∧ Keep h0 h' [a1] ∧ Exa Z h' a1 "java/lang/Long" ∧ Fld Z h' a1 "java/lang/Long" "value" "J" (.long q2)) := by
  refine own_body (plainFor_of_name pn_java_lang_Long) (fun m => ef_12_RJ m a1 q2) ?_
  intro p e s m below meth c T0 hx hby hml hown hnm hret hlk hZ X0 e0
  have hown : s.vm.findClass "java/lang/Long" = some m.cls := hown
  have hml : c.maxLocals = 3 := hml
  have N0 := Fr.nil n0
  have K0 := Keep.refl h0 [a1]
  show OGo p e below s _ _ (T0.setTop (mkF m 0 #[.val (.ref a1), .val (.long q2), .second] []))
  refine own_st (fun t k => XS.aloadN X0.here hx rfl (hb hby d12_0) rfl rfl k) ?_
  show OGo p e below s _ _ (T0.setTop (mkF m 1 #[.val (.ref a1), .val (.long q2), .second] [(.ref a1)]))
  obtain ⟨T20, X20, e20, st20⟩ := own_callIP X0 hx hZ (y := (⟨"java/lang/Number", "<init>", "()V"⟩ : MethodName)) (W := 0) rfl hown (hw _ (List.mem_of_getElem? (i := 69) rfl)) (hw _ (List.mem_of_getElem? (i := 70) rfl)) (hw _ (List.mem_of_getElem? (i := 74) rfl)) (hw _ (List.mem_of_getElem? (i := 73) rfl)) (by decide) (rn1 l Z a0 hw a1 h0) (by decide) (by decide) (a := a1) (g := (mkF m 1 #[.val (.ref a1), .val (.long q2), .second] [(.ref a1)])) rfl (by rw [hml]; rfl) (argsL := []) (rest := []) (lenOf pd_5 rfl) rfl (by show 2 * 0 + _ ≤ _; exact Nat.le_of_eq rfl) (hb hby d12_1) rfl e0 (by decide) (by decide)
  refine own_st st20 ?_
  show OGo p e below s _ _ (T20.setTop (mkF m 4 #[.val (.ref a1), .val (.long q2), .second] []))
  refine own_st (fun t k => XS.aloadN X20.here hx rfl (hb hby d12_4) rfl rfl k) ?_
  show OGo p e below s _ _ (T20.setTop (mkF m 5 #[.val (.ref a1), .val (.long q2), .second] [(.ref a1)]))
  refine own_st (fun t k => XS.lloadN X20.here hx rfl (hb hby d12_5) rfl k) ?_
  show OGo p e below s _ _ (T20.setTop (mkF m 6 #[.val (.ref a1), .val (.long q2), .second] [(.long q2), (.ref a1)]))
  obtain ⟨T21, hp21, X21, e21, Ww21, st21⟩ := putF X20 hx hZ hown (host := "") (Or.inl (hw _ (List.mem_of_getElem? (i := 52) rfl))) Via.refl e20 F_value_a1 E_a1 (Or.inr ⟨(hw _ (List.mem_of_getElem? (i := 53) rfl)), rfl, hnm⟩) (hw _ (List.mem_of_getElem? (i := 65) rfl)) (ty := .long) (by decide) rfl rfl (g := (mkF m 6 #[.val (.ref a1), .val (.long q2), .second] [(.long q2), (.ref a1)])) rfl rfl (hb hby d12_6)
  have Nf21 := Fr.snoc X21 N0 old_a1
  have Z0 := Nat.le_trans Z0 (Keep.of_wr Ww21).1
  have K0 := K0.wr Ww21 (Or.inl (List.mem_of_getElem? (i := 0) rfl))
  have E_a1 := E_a1.wr Ww21
  have F_value_a1 := F_value_a1.same Ww21
  refine own_st st21 ?_
  show OGo p e below s _ _ (T21.setTop (mkF m 9 #[.val (.ref a1), .val (.long q2), .second] []))
  exact own_retV X21 hx hlk hret (hb hby d12_9) (by decide) (by decide) (⟨rfl, Nf21, (by rw [e21]; exact K0), (by rw [e21]; exact E_a1), (by rw [e21]; exact F_value_a1)⟩)
theorem d9_0 : decode jdk_35_method_31_code 0 = .ok (.aload_n 0, 1) := by decide +kernel
theorem d9_1 : decode jdk_35_method_31_code 1 = .ok (.getfield 273, 3) := by decide +kernel
theorem d9_4 : decode jdk_35_method_31_code 4 = .ok (.lreturn, 1) := by decide +kernel
theorem ef_9_R (m : MethodId) (x0 : Addr) : entryFrame m #[(.ref x0)] 1 = mkF m 0 #[.val (.ref x0)] [] := by first | (simp [entryFrame, mkF, argsToLocals, Value.category]; done) | rfl
set_option maxRecDepth 65536 in
set_option maxHeartbeats 40000000 in
theorem rn3 (l : Launch) (Z : State) (a0 : Array Value) (hw : ∀ d ∈ tables_1, d.before a0 Z = true) (a1 : Addr) (q : Int64) (h0 : Heap) (F_value_a1 : Fld Z h0 a1 "java/lang/Long" "value" "J" (.long q)) :
    OPure l Z (⟨"java/lang/Long", "longValue", "()J"⟩ : MethodName) jdk_35_method_31_code 1 (some .long) [] ({ frames := 0, cells := 0, slots := 0, locals := 0 } : Room) #[(.ref a1)] h0 (some (.long q)) := by
  refine own_body (plainFor_of_name pn_java_lang_Long) (fun m => ef_9_R m a1) ?_
  intro p e s m below meth c T0 hx hby hml hown hnm hret hlk hZ X0 e0
  have hown : s.vm.findClass "java/lang/Long" = some m.cls := hown
  have hml : c.maxLocals = 1 := hml
  show OGo p e below s _ _ (T0.setTop (mkF m 0 #[.val (.ref a1)] []))
  refine own_st (fun t k => XS.aloadN X0.here hx rfl (hb hby d9_0) rfl rfl k) ?_
  show OGo p e below s _ _ (T0.setTop (mkF m 1 #[.val (.ref a1)] [(.ref a1)]))
  obtain ⟨T22, X22, e22, st22⟩ := getF X0 hx hZ hown (host := "") (Or.inl (hw _ (List.mem_of_getElem? (i := 52) rfl))) Via.refl e0 F_value_a1 (g := (mkF m 1 #[.val (.ref a1)] [(.ref a1)])) rfl rfl (hb hby d9_1)
  refine own_st st22 ?_
  show OGo p e below s _ _ (T22.setTop (mkF m 4 #[.val (.ref a1)] [(.long q)]))
  exact own_retJ X22 hx hlk hret (hb hby d9_4) (by decide) (by decide) (⟨rfl, rfl, e22⟩)
theorem d8_0 : decode prog_23_method_10_code 0 = .ok (.aload_n 0, 1) := by decide +kernel
theorem d8_1 : decode prog_23_method_10_code 1 = .ok (.ifnonnull 13, 3) := by decide +kernel
theorem d8_14 : decode prog_23_method_10_code 14 = .ok (.aload_n 0, 1) := by decide +kernel
theorem d8_15 : decode prog_23_method_10_code 15 = .ok (.areturn, 1) := by decide +kernel
theorem pn_com_example_do_all_doall_memory_SharedWords : plainName "com/example/do_all/doall/memory/SharedWords" = true := by first | (simp [plainName, overriddenIn]; done) | decide +kernel
theorem ef_8_R (m : MethodId) (x0 : Addr) : entryFrame m #[(.ref x0)] 1 = mkF m 0 #[.val (.ref x0)] [] := by first | (simp [entryFrame, mkF, argsToLocals, Value.category]; done) | rfl
set_option maxRecDepth 65536 in
set_option maxHeartbeats 40000000 in
theorem rn4 (l : Launch) (Z : State) (a0 : Array Value) (hw : ∀ d ∈ tables_1, d.before a0 Z = true) (a1 : Addr) (h0 : Heap) :
    OPure l Z (⟨"com/example/do_all/doall/memory/SharedWords", "held", "(Ljava/lang/Object;)Ljava/lang/Object;"⟩ : MethodName) prog_23_method_10_code 1 (some (.object "java/lang/Object")) [] ({ frames := 0, cells := 0, slots := 0, locals := 0 } : Room) #[(.ref a1)] h0 (some (.ref a1)) := by
  refine own_body (plainFor_of_name pn_com_example_do_all_doall_memory_SharedWords) (fun m => ef_8_R m a1) ?_
  intro p e s m below meth c T0 hx hby hml hown hnm hret hlk hZ X0 e0
  have hown : s.vm.findClass "com/example/do_all/doall/memory/SharedWords" = some m.cls := hown
  have hml : c.maxLocals = 1 := hml
  show OGo p e below s _ _ (T0.setTop (mkF m 0 #[.val (.ref a1)] []))
  refine own_st (fun t k => XS.aloadN X0.here hx rfl (hb hby d8_0) rfl rfl k) ?_
  show OGo p e below s _ _ (T0.setTop (mkF m 1 #[.val (.ref a1)] [(.ref a1)]))
  refine own_st (fun t k => XS.ifnonnullYes X0.here hx rfl (pc0 := 1) (pc' := 14) rfl (hb hby d8_1) rfl (by decide) (by decide) k) ?_
  show OGo p e below s _ _ (T0.setTop (mkF m 14 #[.val (.ref a1)] []))
  refine own_st (fun t k => XS.aloadN X0.here hx rfl (hb hby d8_14) rfl rfl k) ?_
  show OGo p e below s _ _ (T0.setTop (mkF m 15 #[.val (.ref a1)] [(.ref a1)]))
  exact own_retA X0 hx hlk hret rfl rfl (hb hby d8_15) (by decide) (by decide) (⟨rfl, rfl, e0⟩)
theorem ef_1_J (m : MethodId) (x0 : Int64) : entryFrame m #[(.long x0)] 3 = mkF m 0 #[.val (.long x0), .second, .unset] [] := by first | (simp [entryFrame, mkF, argsToLocals, Value.category]; done) | rfl
theorem d1_0 : decode jdk_35_method_24_code 0 = .ok (.sipush 128, 3) := by decide +kernel
theorem d1_3 : decode jdk_35_method_24_code 3 = .ok (.istore_n 2, 1) := by decide +kernel
theorem d1_4 : decode jdk_35_method_24_code 4 = .ok (.lload_n 0, 1) := by decide +kernel
theorem d1_5 : decode jdk_35_method_24_code 5 = .ok (.ldc2_w 230, 3) := by decide +kernel
theorem d1_8 : decode jdk_35_method_24_code 8 = .ok (.lcmp, 1) := by decide +kernel
theorem d1_9 : decode jdk_35_method_24_code 9 = .ok (.ifCond .lt 22, 3) := by decide +kernel
theorem d1_31 : decode jdk_35_method_24_code 31 = .ok (.new 1, 3) := by decide +kernel
theorem d1_34 : decode jdk_35_method_24_code 34 = .ok (.dup, 1) := by decide +kernel
theorem d1_35 : decode jdk_35_method_24_code 35 = .ok (.lload_n 0, 1) := by decide +kernel
theorem d1_36 : decode jdk_35_method_24_code 36 = .ok (.invokespecial 240, 3) := by decide +kernel
theorem pd_6 : parseMethodDescriptor "(J)V" = some ⟨[.long], none⟩ := by decide +kernel
theorem d1_39 : decode jdk_35_method_24_code 39 = .ok (.areturn, 1) := by decide +kernel
theorem d1_12 : decode jdk_35_method_24_code 12 = .ok (.lload_n 0, 1) := by decide +kernel
theorem d1_13 : decode jdk_35_method_24_code 13 = .ok (.ldc2_w 232, 3) := by decide +kernel
theorem d1_16 : decode jdk_35_method_24_code 16 = .ok (.lcmp, 1) := by decide +kernel
theorem d1_17 : decode jdk_35_method_24_code 17 = .ok (.ifCond .gt 14, 3) := by decide +kernel
theorem d1_20 : decode jdk_35_method_24_code 20 = .ok (.getstatic 234, 3) := by decide +kernel
theorem d1_23 : decode jdk_35_method_24_code 23 = .ok (.lload_n 0, 1) := by decide +kernel
theorem d1_24 : decode jdk_35_method_24_code 24 = .ok (.l2i, 1) := by decide +kernel
theorem d1_25 : decode jdk_35_method_24_code 25 = .ok (.sipush 128, 3) := by decide +kernel
theorem d1_28 : decode jdk_35_method_24_code 28 = .ok (.iadd, 1) := by decide +kernel
theorem d1_29 : decode jdk_35_method_24_code 29 = .ok (.aaload, 1) := by decide +kernel
theorem d1_30 : decode jdk_35_method_24_code 30 = .ok (.areturn, 1) := by decide +kernel
set_option maxRecDepth 65536 in
set_option maxHeartbeats 40000000 in
theorem rn5 (l : Launch) (Z : State) (a0 : Array Value) (hw : ∀ d ∈ tables_1, d.before a0 Z = true) (q1 : Int64) (b1 : Addr) (h0 : Heap) (n0 : Nat) (Z0 : n0 ≤ h0.size) (S_cache : Sta Z h0 "java/lang/Long$LongCache" "cache" "[Ljava/lang/Long;" (.ref b1)) (hC : OCache Z h0 b1) :
    OMet l Z (⟨"java/lang/Long", "valueOf", "(J)Ljava/lang/Long;"⟩ : MethodName) jdk_35_method_24_code 3 (some (.object "java/lang/Long")) [] ({ frames := 3, cells := 1, slots := 1, locals := 39 } : Room) #[(.long q1)] h0 (fun v h' L => ∃ b : Addr, v = some (.ref b) ∧ Fr n0 L ∧ Keep h0 h' [] ∧ Exa Z h' b "java/lang/Long" ∧ Fld Z h' b "java/lang/Long" "value" "J" (.long q1)) := by
  refine own_body (plainFor_of_name pn_java_lang_Long) (fun m => ef_1_J m q1) ?_
  intro p e s m below meth c T0 hx hby hml hown hnm hret hlk hZ X0 e0
  have hown : s.vm.findClass "java/lang/Long" = some m.cls := hown
  have hml : c.maxLocals = 3 := hml
  show OGo p e below s _ _ (T0.setTop (mkF m 0 #[.val (.long q1), .second, .unset] []))
  have N0 := Fr.nil n0
  have K0 := Keep.refl h0 []
  refine own_st (fun t k => XS.sipush X0.here hx rfl (hb hby d1_0) k) ?_
  show OGo p e below s ({ frames := 3, cells := 1, slots := 1, locals := 39 } : Room) (fun v h' L => ∃ b : Addr, v = some (.ref b) ∧ Fr n0 L ∧ Keep h0 h' [] ∧ Exa Z h' b "java/lang/Long" ∧ Fld Z h' b "java/lang/Long" "value" "J" (.long q1)) (T0.setTop (mkF m 3 #[.val (.long q1), .second, .unset] [(.int (128 : Int32))]))
  refine own_st (fun t k => XS.istoreN X0.here hx rfl (hb hby d1_3) rfl (l' := #[.val (.long q1), .second, .val (.int (128 : Int32))]) rfl k) ?_
  show OGo p e below s ({ frames := 3, cells := 1, slots := 1, locals := 39 } : Room) (fun v h' L => ∃ b : Addr, v = some (.ref b) ∧ Fr n0 L ∧ Keep h0 h' [] ∧ Exa Z h' b "java/lang/Long" ∧ Fld Z h' b "java/lang/Long" "value" "J" (.long q1)) (T0.setTop (mkF m 4 #[.val (.long q1), .second, .val (.int (128 : Int32))] []))
  refine own_st (fun t k => XS.lloadN X0.here hx rfl (hb hby d1_4) rfl k) ?_
  show OGo p e below s ({ frames := 3, cells := 1, slots := 1, locals := 39 } : Room) (fun v h' L => ∃ b : Addr, v = some (.ref b) ∧ Fr n0 L ∧ Keep h0 h' [] ∧ Exa Z h' b "java/lang/Long" ∧ Fld Z h' b "java/lang/Long" "value" "J" (.long q1)) (T0.setTop (mkF m 5 #[.val (.long q1), .second, .val (.int (128 : Int32))] [(.long q1)]))
  refine own_st (X0.ldc2Long hx hown (mvT hZ (hw _ (List.mem_of_getElem? (i := 4) rfl))) (g := (mkF m 5 #[.val (.long q1), .second, .val (.int (128 : Int32))] [(.long q1)])) rfl (hb hby d1_5)) ?_
  show OGo p e below s ({ frames := 3, cells := 1, slots := 1, locals := 39 } : Room) (fun v h' L => ∃ b : Addr, v = some (.ref b) ∧ Fr n0 L ∧ Keep h0 h' [] ∧ Exa Z h' b "java/lang/Long" ∧ Fld Z h' b "java/lang/Long" "value" "J" (.long q1)) (T0.setTop (mkF m 8 #[.val (.long q1), .second, .val (.int (128 : Int32))] [(.long (-128 : Int64)), (.long q1)]))
  refine own_st (fun t k => XS.lcmp X0.here hx rfl (hb hby d1_8) rfl k) ?_
  show OGo p e below s ({ frames := 3, cells := 1, slots := 1, locals := 39 } : Room) (fun v h' L => ∃ b : Addr, v = some (.ref b) ∧ Fr n0 L ∧ Keep h0 h' [] ∧ Exa Z h' b "java/lang/Long" ∧ Fld Z h' b "java/lang/Long" "value" "J" (.long q1)) (T0.setTop (mkF m 9 #[.val (.long q1), .second, .val (.int (128 : Int32))] [(.int (lcmpW q1 (-128 : Int64)))]))
  by_cases hc9 : q1 < (-128 : Int64)
  · refine own_st (fun t k => XS.ifYes X0.here hx rfl (pc0 := 9) (pc' := 31) rfl (hb hby d1_9) rfl ((if0 _ _).trans (tlt ((lw_lt q1 (-128 : Int64)).mpr hc9)).1) (by decide) (by decide) k) ?_
    show OGo p e below s ({ frames := 3, cells := 1, slots := 1, locals := 39 } : Room) (fun v h' L => ∃ b : Addr, v = some (.ref b) ∧ Fr n0 L ∧ Keep h0 h' [] ∧ Exa Z h' b "java/lang/Long" ∧ Fld Z h' b "java/lang/Long" "value" "J" (.long q1)) (T0.setTop (mkF m 31 #[.val (.long q1), .second, .val (.int (128 : Int32))] []))
    obtain ⟨T23, hp23, X23, e23, Ex23, Aa23, Dd23, -, st23⟩ := newO X0 hx hZ hown (hw _ (List.mem_of_getElem? (i := 64) rfl)) (hw _ (List.mem_of_getElem? (i := 65) rfl)) (hw _ (List.mem_of_getElem? (i := 2) rfl)) e0 (g := (mkF m 31 #[.val (.long q1), .second, .val (.int (128 : Int32))] [])) rfl (hb hby d1_31) (by decide) (by decide)
    obtain ⟨b2, gs23⟩ : ∃ z, z = h0.size := ⟨_, rfl⟩
    rw [← gs23] at Aa23 Dd23 st23
    have old_b2 : n0 ≤ b2 := Nat.le_trans Z0 (Nat.le_of_eq gs23.symm)
    have fr_b2 : h0.size ≤ b2 := Nat.le_trans K0.1 (Nat.le_of_eq gs23.symm)
    have K0 := K0.ext Ex23
    have Z0 := Nat.le_trans Z0 Ex23.1
    have E_b2 := Aa23
    have F_value_b2 : Fld Z hp23 b2 "java/lang/Long" "value" "J" (.long (0 : Int64)) := Dd23 (Or.inr (hw _ (List.mem_of_getElem? (i := 53) rfl))) (ty := .long) (by decide)
    refine own_st st23 ?_
    show OGo p e below s ({ frames := 3, cells := 1, slots := 1, locals := 39 } : Room) (fun v h' L => ∃ b : Addr, v = some (.ref b) ∧ Fr n0 L ∧ Keep h0 h' [] ∧ Exa Z h' b "java/lang/Long" ∧ Fld Z h' b "java/lang/Long" "value" "J" (.long q1)) (T23.setTop (mkF m 34 #[.val (.long q1), .second, .val (.int (128 : Int32))] [(.ref b2)]))
    refine own_st (fun t k => XS.dup X23.here hx rfl (hb hby d1_34) rfl rfl k) ?_
    show OGo p e below s ({ frames := 3, cells := 1, slots := 1, locals := 39 } : Room) (fun v h' L => ∃ b : Addr, v = some (.ref b) ∧ Fr n0 L ∧ Keep h0 h' [] ∧ Exa Z h' b "java/lang/Long" ∧ Fld Z h' b "java/lang/Long" "value" "J" (.long q1)) (T23.setTop (mkF m 35 #[.val (.long q1), .second, .val (.int (128 : Int32))] [(.ref b2), (.ref b2)]))
    refine own_st (fun t k => XS.lloadN X23.here hx rfl (hb hby d1_35) rfl k) ?_
    show OGo p e below s ({ frames := 3, cells := 1, slots := 1, locals := 39 } : Room) (fun v h' L => ∃ b : Addr, v = some (.ref b) ∧ Fr n0 L ∧ Keep h0 h' [] ∧ Exa Z h' b "java/lang/Long" ∧ Fld Z h' b "java/lang/Long" "value" "J" (.long q1)) (T23.setTop (mkF m 36 #[.val (.long q1), .second, .val (.int (128 : Int32))] [(.long q1), (.ref b2), (.ref b2)]))
    obtain ⟨_, T24, Lc24, X24, hQ24, st24⟩ := own_callI X23 hx hZ (y := (⟨"java/lang/Long", "<init>", "(J)V"⟩ : MethodName)) (W := 1) rfl hown (hw _ (List.mem_of_getElem? (i := 66) rfl)) (hw _ (List.mem_of_getElem? (i := 67) rfl)) (hw _ (List.mem_of_getElem? (i := 68) rfl)) (hw _ (List.mem_of_getElem? (i := 2) rfl)) (by decide) (rn2 l Z a0 hw b2 q1 hp23 n0 Z0 old_b2 E_b2 F_value_b2) (by decide) (by decide) (a := b2) (g := (mkF m 36 #[.val (.long q1), .second, .val (.int (128 : Int32))] [(.long q1), (.ref b2), (.ref b2)])) rfl (by rw [hml]; rfl) (argsL := [(.long q1)]) (rest := [(.ref b2)]) (lenOf pd_6 rfl) rfl (by show 2 * 0 + _ ≤ _; exact Nat.le_of_eq rfl) (hb hby d1_36) rfl e23 (by decide) (by decide)
    obtain ⟨rfl, Nq24, Kq24, q24_0, q24_1⟩ := hQ24
    have Z0 := Nat.le_trans Z0 Kq24.1
    have K0 := K0.trans Kq24 (allS (Or.inr fr_b2) all0)
    have Nr24 := Fr.app N0 Nq24
    have E_b2 := q24_0
    have F_value_b2 := q24_1
    refine own_st st24 ?_
    show OGo p e below s ({ frames := 3, cells := 1, slots := 1, locals := 39 } : Room) (fun v h' L => ∃ b : Addr, v = some (.ref b) ∧ Fr n0 L ∧ Keep h0 h' [] ∧ Exa Z h' b "java/lang/Long" ∧ Fld Z h' b "java/lang/Long" "value" "J" (.long q1)) (T24.setTop (mkF m 39 #[.val (.long q1), .second, .val (.int (128 : Int32))] [(.ref b2)]))
    exact own_retA X24 hx hlk hret rfl rfl (hb hby d1_39) (by decide) (by decide) (⟨b2, rfl, Nr24, K0, E_b2, F_value_b2⟩)
  · refine own_st (fun t k => XS.ifNo X0.here hx rfl (hb hby d1_9) rfl ((if0 _ _).trans (flt ((not_congr (lw_lt q1 (-128 : Int64))).mpr hc9)).1) k) ?_
    show OGo p e below s ({ frames := 3, cells := 1, slots := 1, locals := 39 } : Room) (fun v h' L => ∃ b : Addr, v = some (.ref b) ∧ Fr n0 L ∧ Keep h0 h' [] ∧ Exa Z h' b "java/lang/Long" ∧ Fld Z h' b "java/lang/Long" "value" "J" (.long q1)) (T0.setTop (mkF m 12 #[.val (.long q1), .second, .val (.int (128 : Int32))] []))
    refine own_st (fun t k => XS.lloadN X0.here hx rfl (hb hby d1_12) rfl k) ?_
    show OGo p e below s ({ frames := 3, cells := 1, slots := 1, locals := 39 } : Room) (fun v h' L => ∃ b : Addr, v = some (.ref b) ∧ Fr n0 L ∧ Keep h0 h' [] ∧ Exa Z h' b "java/lang/Long" ∧ Fld Z h' b "java/lang/Long" "value" "J" (.long q1)) (T0.setTop (mkF m 13 #[.val (.long q1), .second, .val (.int (128 : Int32))] [(.long q1)]))
    refine own_st (X0.ldc2Long hx hown (mvT hZ (hw _ (List.mem_of_getElem? (i := 5) rfl))) (g := (mkF m 13 #[.val (.long q1), .second, .val (.int (128 : Int32))] [(.long q1)])) rfl (hb hby d1_13)) ?_
    show OGo p e below s ({ frames := 3, cells := 1, slots := 1, locals := 39 } : Room) (fun v h' L => ∃ b : Addr, v = some (.ref b) ∧ Fr n0 L ∧ Keep h0 h' [] ∧ Exa Z h' b "java/lang/Long" ∧ Fld Z h' b "java/lang/Long" "value" "J" (.long q1)) (T0.setTop (mkF m 16 #[.val (.long q1), .second, .val (.int (128 : Int32))] [(.long (127 : Int64)), (.long q1)]))
    refine own_st (fun t k => XS.lcmp X0.here hx rfl (hb hby d1_16) rfl k) ?_
    show OGo p e below s ({ frames := 3, cells := 1, slots := 1, locals := 39 } : Room) (fun v h' L => ∃ b : Addr, v = some (.ref b) ∧ Fr n0 L ∧ Keep h0 h' [] ∧ Exa Z h' b "java/lang/Long" ∧ Fld Z h' b "java/lang/Long" "value" "J" (.long q1)) (T0.setTop (mkF m 17 #[.val (.long q1), .second, .val (.int (128 : Int32))] [(.int (lcmpW q1 (127 : Int64)))]))
    by_cases hc17 : (127 : Int64) < q1
    · refine own_st (fun t k => XS.ifYes X0.here hx rfl (pc0 := 17) (pc' := 31) rfl (hb hby d1_17) rfl ((if0 _ _).trans (tlt ((lw_gt q1 (127 : Int64)).mpr hc17)).2.2.1) (by decide) (by decide) k) ?_
      show OGo p e below s ({ frames := 3, cells := 1, slots := 1, locals := 39 } : Room) (fun v h' L => ∃ b : Addr, v = some (.ref b) ∧ Fr n0 L ∧ Keep h0 h' [] ∧ Exa Z h' b "java/lang/Long" ∧ Fld Z h' b "java/lang/Long" "value" "J" (.long q1)) (T0.setTop (mkF m 31 #[.val (.long q1), .second, .val (.int (128 : Int32))] []))
      obtain ⟨T25, hp25, X25, e25, Ex25, Aa25, Dd25, -, st25⟩ := newO X0 hx hZ hown (hw _ (List.mem_of_getElem? (i := 64) rfl)) (hw _ (List.mem_of_getElem? (i := 65) rfl)) (hw _ (List.mem_of_getElem? (i := 2) rfl)) e0 (g := (mkF m 31 #[.val (.long q1), .second, .val (.int (128 : Int32))] [])) rfl (hb hby d1_31) (by decide) (by decide)
      obtain ⟨b2, gs25⟩ : ∃ z, z = h0.size := ⟨_, rfl⟩
      rw [← gs25] at Aa25 Dd25 st25
      have old_b2 : n0 ≤ b2 := Nat.le_trans Z0 (Nat.le_of_eq gs25.symm)
      have fr_b2 : h0.size ≤ b2 := Nat.le_trans K0.1 (Nat.le_of_eq gs25.symm)
      have K0 := K0.ext Ex25
      have Z0 := Nat.le_trans Z0 Ex25.1
      have E_b2 := Aa25
      have F_value_b2 : Fld Z hp25 b2 "java/lang/Long" "value" "J" (.long (0 : Int64)) := Dd25 (Or.inr (hw _ (List.mem_of_getElem? (i := 53) rfl))) (ty := .long) (by decide)
      refine own_st st25 ?_
      show OGo p e below s ({ frames := 3, cells := 1, slots := 1, locals := 39 } : Room) (fun v h' L => ∃ b : Addr, v = some (.ref b) ∧ Fr n0 L ∧ Keep h0 h' [] ∧ Exa Z h' b "java/lang/Long" ∧ Fld Z h' b "java/lang/Long" "value" "J" (.long q1)) (T25.setTop (mkF m 34 #[.val (.long q1), .second, .val (.int (128 : Int32))] [(.ref b2)]))
      refine own_st (fun t k => XS.dup X25.here hx rfl (hb hby d1_34) rfl rfl k) ?_
      show OGo p e below s ({ frames := 3, cells := 1, slots := 1, locals := 39 } : Room) (fun v h' L => ∃ b : Addr, v = some (.ref b) ∧ Fr n0 L ∧ Keep h0 h' [] ∧ Exa Z h' b "java/lang/Long" ∧ Fld Z h' b "java/lang/Long" "value" "J" (.long q1)) (T25.setTop (mkF m 35 #[.val (.long q1), .second, .val (.int (128 : Int32))] [(.ref b2), (.ref b2)]))
      refine own_st (fun t k => XS.lloadN X25.here hx rfl (hb hby d1_35) rfl k) ?_
      show OGo p e below s ({ frames := 3, cells := 1, slots := 1, locals := 39 } : Room) (fun v h' L => ∃ b : Addr, v = some (.ref b) ∧ Fr n0 L ∧ Keep h0 h' [] ∧ Exa Z h' b "java/lang/Long" ∧ Fld Z h' b "java/lang/Long" "value" "J" (.long q1)) (T25.setTop (mkF m 36 #[.val (.long q1), .second, .val (.int (128 : Int32))] [(.long q1), (.ref b2), (.ref b2)]))
      obtain ⟨_, T26, Lc26, X26, hQ26, st26⟩ := own_callI X25 hx hZ (y := (⟨"java/lang/Long", "<init>", "(J)V"⟩ : MethodName)) (W := 1) rfl hown (hw _ (List.mem_of_getElem? (i := 66) rfl)) (hw _ (List.mem_of_getElem? (i := 67) rfl)) (hw _ (List.mem_of_getElem? (i := 68) rfl)) (hw _ (List.mem_of_getElem? (i := 2) rfl)) (by decide) (rn2 l Z a0 hw b2 q1 hp25 n0 Z0 old_b2 E_b2 F_value_b2) (by decide) (by decide) (a := b2) (g := (mkF m 36 #[.val (.long q1), .second, .val (.int (128 : Int32))] [(.long q1), (.ref b2), (.ref b2)])) rfl (by rw [hml]; rfl) (argsL := [(.long q1)]) (rest := [(.ref b2)]) (lenOf pd_6 rfl) rfl (by show 2 * 0 + _ ≤ _; exact Nat.le_of_eq rfl) (hb hby d1_36) rfl e25 (by decide) (by decide)
      obtain ⟨rfl, Nq26, Kq26, q26_0, q26_1⟩ := hQ26
      have Z0 := Nat.le_trans Z0 Kq26.1
      have K0 := K0.trans Kq26 (allS (Or.inr fr_b2) all0)
      have Nr26 := Fr.app N0 Nq26
      have E_b2 := q26_0
      have F_value_b2 := q26_1
      refine own_st st26 ?_
      show OGo p e below s ({ frames := 3, cells := 1, slots := 1, locals := 39 } : Room) (fun v h' L => ∃ b : Addr, v = some (.ref b) ∧ Fr n0 L ∧ Keep h0 h' [] ∧ Exa Z h' b "java/lang/Long" ∧ Fld Z h' b "java/lang/Long" "value" "J" (.long q1)) (T26.setTop (mkF m 39 #[.val (.long q1), .second, .val (.int (128 : Int32))] [(.ref b2)]))
      exact own_retA X26 hx hlk hret rfl rfl (hb hby d1_39) (by decide) (by decide) (⟨b2, rfl, Nr26, K0, E_b2, F_value_b2⟩)
    · refine own_st (fun t k => XS.ifNo X0.here hx rfl (hb hby d1_17) rfl ((if0 _ _).trans (flt ((not_congr (lw_gt q1 (127 : Int64))).mpr hc17)).2.2.1) k) ?_
      show OGo p e below s ({ frames := 3, cells := 1, slots := 1, locals := 39 } : Room) (fun v h' L => ∃ b : Addr, v = some (.ref b) ∧ Fr n0 L ∧ Keep h0 h' [] ∧ Exa Z h' b "java/lang/Long" ∧ Fld Z h' b "java/lang/Long" "value" "J" (.long q1)) (T0.setTop (mkF m 20 #[.val (.long q1), .second, .val (.int (128 : Int32))] []))
      obtain ⟨T27, X27, e27, st27⟩ := getS2 X0 hx hZ hown (host := "") (Or.inl (hw _ (List.mem_of_getElem? (i := 6) rfl))) Via.refl e0 S_cache (g := (mkF m 20 #[.val (.long q1), .second, .val (.int (128 : Int32))] [])) rfl (hb hby d1_20)
      refine own_st st27 ?_
      show OGo p e below s ({ frames := 3, cells := 1, slots := 1, locals := 39 } : Room) (fun v h' L => ∃ b : Addr, v = some (.ref b) ∧ Fr n0 L ∧ Keep h0 h' [] ∧ Exa Z h' b "java/lang/Long" ∧ Fld Z h' b "java/lang/Long" "value" "J" (.long q1)) (T27.setTop (mkF m 23 #[.val (.long q1), .second, .val (.int (128 : Int32))] [(.ref b1)]))
      obtain ⟨j, hj, ej, ev⟩ := own_cix q1 hc9 hc17
      obtain ⟨cl, Ar, Sz, Hh⟩ := hC
      obtain ⟨b3, hb3, E3, F3⟩ := Hh j hj
      refine own_st (fun t k => XS.lloadN X27.here hx rfl (hb hby d1_23) rfl k) ?_
      show OGo p e below s ({ frames := 3, cells := 1, slots := 1, locals := 39 } : Room) (fun v h' L => ∃ b : Addr, v = some (.ref b) ∧ Fr n0 L ∧ Keep h0 h' [] ∧ Exa Z h' b "java/lang/Long" ∧ Fld Z h' b "java/lang/Long" "value" "J" (.long q1)) (T27.setTop (mkF m 24 #[.val (.long q1), .second, .val (.int (128 : Int32))] [(.long q1), (.ref b1)]))
      refine own_st (fun t k => XS.l2i X27.here hx rfl (hb hby d1_24) rfl k) ?_
      show OGo p e below s ({ frames := 3, cells := 1, slots := 1, locals := 39 } : Room) (fun v h' L => ∃ b : Addr, v = some (.ref b) ∧ Fr n0 L ∧ Keep h0 h' [] ∧ Exa Z h' b "java/lang/Long" ∧ Fld Z h' b "java/lang/Long" "value" "J" (.long q1)) (T27.setTop (mkF m 25 #[.val (.long q1), .second, .val (.int (128 : Int32))] [(.int q1.toInt32), (.ref b1)]))
      refine own_st (fun t k => XS.sipush X27.here hx rfl (hb hby d1_25) k) ?_
      show OGo p e below s ({ frames := 3, cells := 1, slots := 1, locals := 39 } : Room) (fun v h' L => ∃ b : Addr, v = some (.ref b) ∧ Fr n0 L ∧ Keep h0 h' [] ∧ Exa Z h' b "java/lang/Long" ∧ Fld Z h' b "java/lang/Long" "value" "J" (.long q1)) (T27.setTop (mkF m 28 #[.val (.long q1), .second, .val (.int (128 : Int32))] [(.int (128 : Int32)), (.int q1.toInt32), (.ref b1)]))
      refine own_st (fun t k => XS.iadd X27.here hx rfl (hb hby d1_28) rfl k) ?_
      show OGo p e below s ({ frames := 3, cells := 1, slots := 1, locals := 39 } : Room) (fun v h' L => ∃ b : Addr, v = some (.ref b) ∧ Fr n0 L ∧ Keep h0 h' [] ∧ Exa Z h' b "java/lang/Long" ∧ Fld Z h' b "java/lang/Long" "value" "J" (.long q1)) (T27.setTop (mkF m 29 #[.val (.long q1), .second, .val (.int (128 : Int32))] [(.int (q1.toInt32 + (128 : Int32))), (.ref b1)]))
      rw [ej]
      have hin := own_in (i := Int32.ofNat j) Sz (own_nat (by omega)).2.1 (by rw [(own_nat (by omega)).1]; exact hj)
      refine own_st (X27.aaload hx (j := Int32.ofNat j) (v := .ref b3) (by rw [e27]; exact Ar.1) (State.isArrayOf_alike hZ.alike Ar.2.1) rfl Ar.2.2 hin (by rw [(own_nat (by omega)).1]; exact hb3) (g := (mkF m 29 #[.val (.long q1), .second, .val (.int (128 : Int32))] [(.int (Int32.ofNat j)), (.ref b1)])) rfl rfl (hb hby d1_29)) ?_
      show OGo p e below s ({ frames := 3, cells := 1, slots := 1, locals := 39 } : Room) (fun v h' L => ∃ b : Addr, v = some (.ref b) ∧ Fr n0 L ∧ Keep h0 h' [] ∧ Exa Z h' b "java/lang/Long" ∧ Fld Z h' b "java/lang/Long" "value" "J" (.long q1)) (T27.setTop (mkF m 30 #[.val (.long q1), .second, .val (.int (128 : Int32))] [(.ref b3)]))
      rw [ev] at F3
      exact own_retA X27 hx hlk hret rfl rfl (hb hby d1_30) (by decide) (by decide) (⟨b3, rfl, N0, (by rw [e27]; exact K0), (by rw [e27]; exact E3), (by rw [e27]; exact F3)⟩)
theorem pn_com_example_do_all_doall_memory_SharedWordsHeldPinLaw : plainName "com/example/do_all/doall/memory/SharedWordsHeldPinLaw" = true := by first | (simp [plainName, overriddenIn]; done) | decide +kernel
theorem ef_0_JII (m : MethodId) (x0 : Int64) (x1 : Int32) (x2 : Int32) : entryFrame m #[(.long x0), (.int x1), (.int x2)] maxLocals = mkF m 0 #[.val (.long x0), .second, .val (.int x1), .val (.int x2), .unset, .unset, .unset, .unset, .unset, .unset, .unset, .unset] [] := by first | (simp [entryFrame, mkF, argsToLocals, Value.category, maxLocals]; done) | rfl
theorem pd_7 : parseMethodDescriptor "(J)Ljava/lang/Long;" = some ⟨[.long], some (.object "java/lang/Long")⟩ := by decide +kernel
theorem pd_8 : parseMethodDescriptor "([C)V" = some ⟨[(.array .char)], none⟩ := by decide +kernel
theorem pd_9 : parseMethodDescriptor "(Ljava/lang/Object;)Ljava/lang/Object;" = some ⟨[(.object "java/lang/Object")], some (.object "java/lang/Object")⟩ := by decide +kernel
theorem pd_10 : parseMethodDescriptor "()J" = some ⟨[], some .long⟩ := by decide +kernel
theorem pd_11 : parseMethodDescriptor "()I" = some ⟨[], some .int⟩ := by decide +kernel
set_option maxRecDepth 65536 in
set_option maxHeartbeats 40000000 in
theorem rm0 (l : Launch) (Z : State) (a0 : Array Value) (hw : ∀ d ∈ tables_1, d.before a0 Z = true) (ws : List Jvm.Cond) (q1 : Int64) (q2 : Int32) (q3 : Int32) (b0 : Addr) (cs : Int32) (h0 : Heap) (n0 : Nat) (Z0 : n0 ≤ h0.size) (S_cache : Sta Z h0 "java/lang/Long$LongCache" "cache" "[Ljava/lang/Long;" (.ref b0)) (hC : OCache Z h0 b0) (S_COMPACT_STRINGS : Sta Z h0 "java/lang/String" "COMPACT_STRINGS" "Z" (.int cs)) (hcs : ¬ cs = (0 : Int32)) :
    OMet l Z x code maxLocals ret ws room_1 #[(.long q1), (.int q2), (.int q3)] h0 (OLawQ n0) := by
  refine own_body (plainFor_of_name pn_com_example_do_all_doall_memory_SharedWordsHeldPinLaw) (fun m => ef_0_JII m q1 q2 q3) ?_
  intro p e s m below meth c T0 hx hby hml hown hnm hret hlk hZ X0 e0
  have hown : s.vm.findClass "com/example/do_all/doall/memory/SharedWordsHeldPinLaw" = some m.cls := hown
  have hml : c.maxLocals = 12 := hml
  show OGo p e below s _ _ (T0.setTop (mkF m 0 #[.val (.long q1), .second, .val (.int q2), .val (.int q3), .unset, .unset, .unset, .unset, .unset, .unset, .unset, .unset] []))
  have N0 := Fr.nil n0
  refine own_st (fun t k => XS.lloadN X0.here hx rfl (hb hby at_0) rfl k) ?_
  show OGo p e below s room_1 (OLawQ n0) (T0.setTop (mkF m 1 #[.val (.long q1), .second, .val (.int q2), .val (.int q3), .unset, .unset, .unset, .unset, .unset, .unset, .unset, .unset] [(.long q1)]))
  obtain ⟨_, T28, Lc28, X28, hQ28, st28⟩ := own_callS X0 hx hZ (y := (⟨"java/lang/Long", "valueOf", "(J)Ljava/lang/Long;"⟩ : MethodName)) (W := 0) hown (hw _ (List.mem_of_getElem? (i := 0) rfl)) (hw _ (List.mem_of_getElem? (i := 1) rfl)) (hw _ (List.mem_of_getElem? (i := 2) rfl)) (hw _ (List.mem_of_getElem? (i := 3) rfl)) (by decide) (rn5 l Z a0 hw q1 b0 h0 n0 Z0 S_cache hC) (by decide) (by decide) (g := (mkF m 1 #[.val (.long q1), .second, .val (.int q2), .val (.int q3), .unset, .unset, .unset, .unset, .unset, .unset, .unset, .unset] [(.long q1)])) rfl (by rw [hml]; rfl) (argsL := [(.long q1)]) (rest := []) (lenOf pd_7 rfl) rfl (by show 2 * 0 + _ ≤ _; exact Nat.le_of_eq rfl) (hb hby at_1) rfl e0 (by decide) (by decide)
  obtain ⟨b1, rfl, Nq, Kq, E_b1, F_value_b1⟩ := hQ28
  have hpl_Kq : ∀ w ∈ ([] : List Addr), ∃ c : Cell, h0[w]? = some c ∧ c.vm.isStatics = false := all0
  have Z0 := Nat.le_trans Z0 Kq.1
  have S_COMPACT_STRINGS := own_sta_keep S_COMPACT_STRINGS Kq hpl_Kq
  have M1 := Fr.app N0 Nq
  refine own_st st28 ?_
  show OGo p e below s room_1 (OLawQ n0) (T28.setTop (mkF m 4 #[.val (.long q1), .second, .val (.int q2), .val (.int q3), .unset, .unset, .unset, .unset, .unset, .unset, .unset, .unset] [(.ref b1)]))
  refine own_st (fun t k => XS.astore X28.here hx rfl (hb hby at_4) rfl rfl (l' := #[.val (.long q1), .second, .val (.int q2), .val (.int q3), .val (.ref b1), .unset, .unset, .unset, .unset, .unset, .unset, .unset]) rfl k) ?_
  show OGo p e below s room_1 (OLawQ n0) (T28.setTop (mkF m 6 #[.val (.long q1), .second, .val (.int q2), .val (.int q3), .val (.ref b1), .unset, .unset, .unset, .unset, .unset, .unset, .unset] []))
  refine own_st (fun t k => XS.iconst X28.here hx rfl (hb hby at_6) k) ?_
  show OGo p e below s room_1 (OLawQ n0) (T28.setTop (mkF m 7 #[.val (.long q1), .second, .val (.int q2), .val (.int q3), .val (.ref b1), .unset, .unset, .unset, .unset, .unset, .unset, .unset] [(.int (2 : Int32))]))
  obtain ⟨T29, hp29, kk29, X29, e29, Ex29, Aa29, st29⟩ := newP X28 hx hZ (hw _ (List.mem_of_getElem? (i := 8) rfl)) rfl (g := (mkF m 7 #[.val (.long q1), .second, .val (.int q2), .val (.int q3), .val (.ref b1), .unset, .unset, .unset, .unset, .unset, .unset, .unset] [(.int (2 : Int32))])) rfl (hb hby at_7) rfl (by decide) (cap := 2) (by decide) (by decide) (by decide) (by decide)
  obtain ⟨b2, gs29⟩ : ∃ z, z = T28.heap.size := ⟨_, rfl⟩
  rw [← gs29] at Aa29 st29
  have ne_b1_b2 : b1 ≠ b2 := Nat.ne_of_lt (Nat.lt_of_lt_of_le E_b1.lt (Nat.le_of_eq gs29.symm))
  have old_b2 : n0 ≤ b2 := Nat.le_trans Z0 (Nat.le_of_eq gs29.symm)
  have Z0 := Nat.le_trans Z0 Ex29.1
  have S_COMPACT_STRINGS := S_COMPACT_STRINGS.ext Ex29
  have E_b1 := E_b1.ext Ex29
  have F_value_b1 := F_value_b1.ext Ex29
  have A_b2 := OAr.new Aa29
  refine own_st st29 ?_
  show OGo p e below s room_1 (OLawQ n0) (T29.setTop (mkF m 9 #[.val (.long q1), .second, .val (.int q2), .val (.int q3), .val (.ref b1), .unset, .unset, .unset, .unset, .unset, .unset, .unset] [(.ref b2)]))
  refine own_st (fun t k => XS.astore X29.here hx rfl (hb hby at_9) rfl rfl (l' := #[.val (.long q1), .second, .val (.int q2), .val (.int q3), .val (.ref b1), .val (.ref b2), .unset, .unset, .unset, .unset, .unset, .unset]) rfl k) ?_
  show OGo p e below s room_1 (OLawQ n0) (T29.setTop (mkF m 11 #[.val (.long q1), .second, .val (.int q2), .val (.int q3), .val (.ref b1), .val (.ref b2), .unset, .unset, .unset, .unset, .unset, .unset] []))
  refine own_st (fun t k => XS.aload X29.here hx rfl (hb hby at_11) rfl rfl k) ?_
  show OGo p e below s room_1 (OLawQ n0) (T29.setTop (mkF m 13 #[.val (.long q1), .second, .val (.int q2), .val (.int q3), .val (.ref b1), .val (.ref b2), .unset, .unset, .unset, .unset, .unset, .unset] [(.ref b2)]))
  refine own_st (fun t k => XS.iconst X29.here hx rfl (hb hby at_13) k) ?_
  show OGo p e below s room_1 (OLawQ n0) (T29.setTop (mkF m 14 #[.val (.long q1), .second, .val (.int q2), .val (.int q3), .val (.ref b1), .val (.ref b2), .unset, .unset, .unset, .unset, .unset, .unset] [(.int (0 : Int32)), (.ref b2)]))
  refine own_st (fun t k => XS.iloadN X29.here hx rfl (hb hby at_14) rfl k) ?_
  show OGo p e below s room_1 (OLawQ n0) (T29.setTop (mkF m 15 #[.val (.long q1), .second, .val (.int q2), .val (.int q3), .val (.ref b1), .val (.ref b2), .unset, .unset, .unset, .unset, .unset, .unset] [(.int q2), (.int (0 : Int32)), (.ref b2)]))
  refine own_st (fun t k => XS.sipush X29.here hx rfl (hb hby at_15) k) ?_
  show OGo p e below s room_1 (OLawQ n0) (T29.setTop (mkF m 18 #[.val (.long q1), .second, .val (.int q2), .val (.int q3), .val (.ref b1), .val (.ref b2), .unset, .unset, .unset, .unset, .unset, .unset] [(.int (255 : Int32)), (.int q2), (.int (0 : Int32)), (.ref b2)]))
  refine own_st (fun t k => XS.iand X29.here hx rfl (hb hby at_18) rfl k) ?_
  show OGo p e below s room_1 (OLawQ n0) (T29.setTop (mkF m 19 #[.val (.long q1), .second, .val (.int q2), .val (.int q3), .val (.ref b1), .val (.ref b2), .unset, .unset, .unset, .unset, .unset, .unset] [(.int (q2 &&& (255 : Int32))), (.int (0 : Int32)), (.ref b2)]))
  refine own_st (fun t k => XS.i2c X29.here hx rfl (hb hby at_19) rfl k) ?_
  show OGo p e below s room_1 (OLawQ n0) (T29.setTop (mkF m 20 #[.val (.long q1), .second, .val (.int q2), .val (.int q3), .val (.ref b1), .val (.ref b2), .unset, .unset, .unset, .unset, .unset, .unset] [(.int (q2 &&& (255 : Int32)).toUInt32.toUInt16.toUInt32.toInt32), (.int (0 : Int32)), (.ref b2)]))
  obtain ⟨cl30, Ar30, Sz30, Hh30⟩ := id A_b2
  obtain ⟨T30, hp30, X30, e30, Ww30, st30⟩ := stC X29 hx hZ e29 Ar30 (j := (0 : Int32)) (own_in Sz30 (by decide) (by decide)) (g := (mkF m 20 #[.val (.long q1), .second, .val (.int q2), .val (.int q3), .val (.ref b1), .val (.ref b2), .unset, .unset, .unset, .unset, .unset, .unset] [(.int (q2 &&& (255 : Int32)).toUInt32.toUInt16.toUInt32.toInt32), (.int (0 : Int32)), (.ref b2)])) rfl rfl (hb hby at_20)
  have Nf30 := Fr.snoc X30 M1 old_b2
  have Z0 := Nat.le_trans Z0 (Keep.of_wr Ww30).1
  have S_COMPACT_STRINGS := S_COMPACT_STRINGS.wr Ww30
  have E_b1 := E_b1.wr Ww30
  have F_value_b1 := F_value_b1.other Ww30 (Or.inl ne_b1_b2)
  have A_b2 := OAr.set Ar30 Sz30 Hh30 Ww30
  refine own_st st30 ?_
  show OGo p e below s room_1 (OLawQ n0) (T30.setTop (mkF m 21 #[.val (.long q1), .second, .val (.int q2), .val (.int q3), .val (.ref b1), .val (.ref b2), .unset, .unset, .unset, .unset, .unset, .unset] []))
  refine own_st (fun t k => XS.aload X30.here hx rfl (hb hby at_21) rfl rfl k) ?_
  show OGo p e below s room_1 (OLawQ n0) (T30.setTop (mkF m 23 #[.val (.long q1), .second, .val (.int q2), .val (.int q3), .val (.ref b1), .val (.ref b2), .unset, .unset, .unset, .unset, .unset, .unset] [(.ref b2)]))
  refine own_st (fun t k => XS.iconst X30.here hx rfl (hb hby at_23) k) ?_
  show OGo p e below s room_1 (OLawQ n0) (T30.setTop (mkF m 24 #[.val (.long q1), .second, .val (.int q2), .val (.int q3), .val (.ref b1), .val (.ref b2), .unset, .unset, .unset, .unset, .unset, .unset] [(.int (1 : Int32)), (.ref b2)]))
  refine own_st (fun t k => XS.iloadN X30.here hx rfl (hb hby at_24) rfl k) ?_
  show OGo p e below s room_1 (OLawQ n0) (T30.setTop (mkF m 25 #[.val (.long q1), .second, .val (.int q2), .val (.int q3), .val (.ref b1), .val (.ref b2), .unset, .unset, .unset, .unset, .unset, .unset] [(.int q3), (.int (1 : Int32)), (.ref b2)]))
  refine own_st (fun t k => XS.sipush X30.here hx rfl (hb hby at_25) k) ?_
  show OGo p e below s room_1 (OLawQ n0) (T30.setTop (mkF m 28 #[.val (.long q1), .second, .val (.int q2), .val (.int q3), .val (.ref b1), .val (.ref b2), .unset, .unset, .unset, .unset, .unset, .unset] [(.int (255 : Int32)), (.int q3), (.int (1 : Int32)), (.ref b2)]))
  refine own_st (fun t k => XS.iand X30.here hx rfl (hb hby at_28) rfl k) ?_
  show OGo p e below s room_1 (OLawQ n0) (T30.setTop (mkF m 29 #[.val (.long q1), .second, .val (.int q2), .val (.int q3), .val (.ref b1), .val (.ref b2), .unset, .unset, .unset, .unset, .unset, .unset] [(.int (q3 &&& (255 : Int32))), (.int (1 : Int32)), (.ref b2)]))
  refine own_st (fun t k => XS.i2c X30.here hx rfl (hb hby at_29) rfl k) ?_
  show OGo p e below s room_1 (OLawQ n0) (T30.setTop (mkF m 30 #[.val (.long q1), .second, .val (.int q2), .val (.int q3), .val (.ref b1), .val (.ref b2), .unset, .unset, .unset, .unset, .unset, .unset] [(.int (q3 &&& (255 : Int32)).toUInt32.toUInt16.toUInt32.toInt32), (.int (1 : Int32)), (.ref b2)]))
  obtain ⟨cl31, Ar31, Sz31, Hh31⟩ := id A_b2
  obtain ⟨T31, hp31, X31, e31, Ww31, st31⟩ := stC X30 hx hZ e30 Ar31 (j := (1 : Int32)) (own_in Sz31 (by decide) (by decide)) (g := (mkF m 30 #[.val (.long q1), .second, .val (.int q2), .val (.int q3), .val (.ref b1), .val (.ref b2), .unset, .unset, .unset, .unset, .unset, .unset] [(.int (q3 &&& (255 : Int32)).toUInt32.toUInt16.toUInt32.toInt32), (.int (1 : Int32)), (.ref b2)])) rfl rfl (hb hby at_30)
  have Nf31 := Fr.snoc X31 Nf30 old_b2
  have Z0 := Nat.le_trans Z0 (Keep.of_wr Ww31).1
  have S_COMPACT_STRINGS := S_COMPACT_STRINGS.wr Ww31
  have E_b1 := E_b1.wr Ww31
  have F_value_b1 := F_value_b1.other Ww31 (Or.inl ne_b1_b2)
  have A_b2 := OAr.set Ar31 Sz31 Hh31 Ww31
  refine own_st st31 ?_
  show OGo p e below s room_1 (OLawQ n0) (T31.setTop (mkF m 31 #[.val (.long q1), .second, .val (.int q2), .val (.int q3), .val (.ref b1), .val (.ref b2), .unset, .unset, .unset, .unset, .unset, .unset] []))
  have A_b2 : OAr Z hp31 b2 .char 2 (fun j => .int ((own_c2 (nar .char (q2 &&& (255 : Int32)).toUInt32.toUInt16.toUInt32.toInt32) (nar .char (q3 &&& (255 : Int32)).toUInt32.toUInt16.toUInt32.toInt32)) j)) := A_b2.cong (fun j hj => by
    have : j = 0 ∨ j = 1 := by have : j < 2 := hj; omega
    rcases this with rfl | rfl <;> rfl)
  obtain ⟨T32, hp32, X32, e32, Ex32, Aa32, Dd32, -, st32⟩ := newO X31 hx hZ hown (hw _ (List.mem_of_getElem? (i := 9) rfl)) (hw _ (List.mem_of_getElem? (i := 10) rfl)) (hw _ (List.mem_of_getElem? (i := 11) rfl)) e31 (g := (mkF m 31 #[.val (.long q1), .second, .val (.int q2), .val (.int q3), .val (.ref b1), .val (.ref b2), .unset, .unset, .unset, .unset, .unset, .unset] [])) rfl (hb hby at_31) (by decide) (by decide)
  obtain ⟨b3, gs32⟩ : ∃ z, z = hp31.size := ⟨_, rfl⟩
  rw [← gs32] at Aa32 Dd32 st32
  have ne_b1_b3 : b1 ≠ b3 := Nat.ne_of_lt (Nat.lt_of_lt_of_le E_b1.lt (Nat.le_of_eq gs32.symm))
  have ne_b2_b3 : b2 ≠ b3 := Nat.ne_of_lt (Nat.lt_of_lt_of_le A_b2.lt (Nat.le_of_eq gs32.symm))
  have old_b3 : n0 ≤ b3 := Nat.le_trans Z0 (Nat.le_of_eq gs32.symm)
  have Z0 := Nat.le_trans Z0 Ex32.1
  have S_COMPACT_STRINGS := S_COMPACT_STRINGS.ext Ex32
  have E_b1 := E_b1.ext Ex32
  have F_value_b1 := F_value_b1.ext Ex32
  have A_b2 := A_b2.ext Ex32
  have E_b3 := Aa32
  have F_coder_b3 : Fld Z hp32 b3 "java/lang/String" "coder" "B" (.int (0 : Int32)) := Dd32 (Or.inr (hw _ (List.mem_of_getElem? (i := 35) rfl))) (ty := .byte) (by decide)
  have F_value_b3 : Fld Z hp32 b3 "java/lang/String" "value" "[B" .null := Dd32 (Or.inr (hw _ (List.mem_of_getElem? (i := 37) rfl))) (ty := (.array .byte)) (by decide)
  refine own_st st32 ?_
  show OGo p e below s room_1 (OLawQ n0) (T32.setTop (mkF m 34 #[.val (.long q1), .second, .val (.int q2), .val (.int q3), .val (.ref b1), .val (.ref b2), .unset, .unset, .unset, .unset, .unset, .unset] [(.ref b3)]))
  refine own_st (fun t k => XS.dup X32.here hx rfl (hb hby at_34) rfl rfl k) ?_
  show OGo p e below s room_1 (OLawQ n0) (T32.setTop (mkF m 35 #[.val (.long q1), .second, .val (.int q2), .val (.int q3), .val (.ref b1), .val (.ref b2), .unset, .unset, .unset, .unset, .unset, .unset] [(.ref b3), (.ref b3)]))
  refine own_st (fun t k => XS.aload X32.here hx rfl (hb hby at_35) rfl rfl k) ?_
  show OGo p e below s room_1 (OLawQ n0) (T32.setTop (mkF m 37 #[.val (.long q1), .second, .val (.int q2), .val (.int q3), .val (.ref b1), .val (.ref b2), .unset, .unset, .unset, .unset, .unset, .unset] [(.ref b2), (.ref b3), (.ref b3)]))
  obtain ⟨_, T33, Lc33, X33, hQ33, st33⟩ := own_callI X32 hx hZ (y := (⟨"java/lang/String", "<init>", "([C)V"⟩ : MethodName)) (W := 1) rfl hown (hw _ (List.mem_of_getElem? (i := 12) rfl)) (hw _ (List.mem_of_getElem? (i := 13) rfl)) (hw _ (List.mem_of_getElem? (i := 14) rfl)) (hw _ (List.mem_of_getElem? (i := 11) rfl)) (by decide) (sc5 l Z a0 hw b3 b2 2 (own_c2 (nar .char (q2 &&& (255 : Int32)).toUInt32.toUInt16.toUInt32.toInt32) (nar .char (q3 &&& (255 : Int32)).toUInt32.toUInt16.toUInt32.toInt32)) cs hp32 n0 Z0 old_b3 ne_b2_b3 E_b3 F_coder_b3 F_value_b3 A_b2 S_COMPACT_STRINGS (by decide) (by decide) (own_c2le _ _ (own_255 _) (own_255 _)) hcs) (by decide) (by decide) (a := b3) (g := (mkF m 37 #[.val (.long q1), .second, .val (.int q2), .val (.int q3), .val (.ref b1), .val (.ref b2), .unset, .unset, .unset, .unset, .unset, .unset] [(.ref b2), (.ref b3), (.ref b3)])) rfl (by rw [hml]; rfl) (argsL := [(.ref b2)]) (rest := [(.ref b3)]) (lenOf pd_8 rfl) rfl (by show 2 * 0 + _ ≤ _; exact Nat.le_of_eq rfl) (hb hby at_37) rfl e32 (by decide) (by decide)
  obtain ⟨t3, rfl, Nq33, Kq33, fq33_t3, q33_0, q33_1, q33_2, q33_3⟩ := hQ33
  have ne_b1_t3 : b1 ≠ t3 := Nat.ne_of_lt (Nat.lt_of_lt_of_le E_b1.lt fq33_t3)
  have ne_b2_t3 : b2 ≠ t3 := Nat.ne_of_lt (Nat.lt_of_lt_of_le A_b2.lt fq33_t3)
  have ne_b3_t3 : b3 ≠ t3 := Nat.ne_of_lt (Nat.lt_of_lt_of_le E_b3.lt fq33_t3)
  have old_t3 : n0 ≤ t3 := Nat.le_trans Z0 fq33_t3
  have hpl_Kq33 : ∀ w ∈ [b3], ∃ c : Cell, hp32[w]? = some c ∧ c.vm.isStatics = false := (allS (own_pl_exa E_b3) all0)
  have Z0 := Nat.le_trans Z0 Kq33.1
  have S_COMPACT_STRINGS := own_sta_keep S_COMPACT_STRINGS Kq33 hpl_Kq33
  have E_b1 := E_b1.keep Kq33
  have F_value_b1 := F_value_b1.keep Kq33 (ninS ne_b1_b3 nin0)
  have A_b2 := A_b2.keep Kq33 (ninS ne_b2_b3 nin0)
  have Nr33 := Fr.app Nf31 Nq33
  have E_b3 := q33_0
  have F_coder_b3 := q33_1
  have F_value_b3 := q33_2
  have A_t3 := q33_3
  refine own_st st33 ?_
  show OGo p e below s room_1 (OLawQ n0) (T33.setTop (mkF m 40 #[.val (.long q1), .second, .val (.int q2), .val (.int q3), .val (.ref b1), .val (.ref b2), .unset, .unset, .unset, .unset, .unset, .unset] [(.ref b3)]))
  refine own_st (fun t k => XS.astore X33.here hx rfl (hb hby at_40) rfl rfl (l' := #[.val (.long q1), .second, .val (.int q2), .val (.int q3), .val (.ref b1), .val (.ref b2), .val (.ref b3), .unset, .unset, .unset, .unset, .unset]) rfl k) ?_
  show OGo p e below s room_1 (OLawQ n0) (T33.setTop (mkF m 42 #[.val (.long q1), .second, .val (.int q2), .val (.int q3), .val (.ref b1), .val (.ref b2), .val (.ref b3), .unset, .unset, .unset, .unset, .unset] []))
  refine own_st (fun t k => XS.iconst X33.here hx rfl (hb hby at_42) k) ?_
  show OGo p e below s room_1 (OLawQ n0) (T33.setTop (mkF m 43 #[.val (.long q1), .second, .val (.int q2), .val (.int q3), .val (.ref b1), .val (.ref b2), .val (.ref b3), .unset, .unset, .unset, .unset, .unset] [(.int (1 : Int32))]))
  obtain ⟨T34, hp34, kk34, X34, e34, Ex34, Aa34, Bb34, st34⟩ := newPE X33 hx hZ (hw _ (List.mem_of_getElem? (i := 38) rfl)) rfl (g := (mkF m 43 #[.val (.long q1), .second, .val (.int q2), .val (.int q3), .val (.ref b1), .val (.ref b2), .val (.ref b3), .unset, .unset, .unset, .unset, .unset] [(.int (1 : Int32))])) rfl (hb hby at_43) rfl (by decide) (cap := 1) (by decide) (by decide) (by decide) (by decide) (ad := "[I") (by decide)
  obtain ⟨b4, gs34⟩ : ∃ z, z = T33.heap.size := ⟨_, rfl⟩
  rw [← gs34] at Aa34 Bb34 st34
  have ne_b1_b4 : b1 ≠ b4 := Nat.ne_of_lt (Nat.lt_of_lt_of_le E_b1.lt (Nat.le_of_eq gs34.symm))
  have ne_b3_b4 : b3 ≠ b4 := Nat.ne_of_lt (Nat.lt_of_lt_of_le E_b3.lt (Nat.le_of_eq gs34.symm))
  have ne_t3_b4 : t3 ≠ b4 := Nat.ne_of_lt (Nat.lt_of_lt_of_le A_t3.lt (Nat.le_of_eq gs34.symm))
  have old_b4 : n0 ≤ b4 := Nat.le_trans Z0 (Nat.le_of_eq gs34.symm)
  have Z0 := Nat.le_trans Z0 Ex34.1
  have S_COMPACT_STRINGS := S_COMPACT_STRINGS.ext Ex34
  have E_b1 := E_b1.ext Ex34
  have F_value_b1 := F_value_b1.ext Ex34
  have E_b3 := E_b3.ext Ex34
  have F_coder_b3 := F_coder_b3.ext Ex34
  have F_value_b3 := F_value_b3.ext Ex34
  have A_t3 := A_t3.ext Ex34
  have A_b4 := OAr.new Aa34
  have E_b4 := Bb34
  refine own_st st34 ?_
  show OGo p e below s room_1 (OLawQ n0) (T34.setTop (mkF m 45 #[.val (.long q1), .second, .val (.int q2), .val (.int q3), .val (.ref b1), .val (.ref b2), .val (.ref b3), .unset, .unset, .unset, .unset, .unset] [(.ref b4)]))
  refine own_st (fun t k => XS.astore X34.here hx rfl (hb hby at_45) rfl rfl (l' := #[.val (.long q1), .second, .val (.int q2), .val (.int q3), .val (.ref b1), .val (.ref b2), .val (.ref b3), .val (.ref b4), .unset, .unset, .unset, .unset]) rfl k) ?_
  show OGo p e below s room_1 (OLawQ n0) (T34.setTop (mkF m 47 #[.val (.long q1), .second, .val (.int q2), .val (.int q3), .val (.ref b1), .val (.ref b2), .val (.ref b3), .val (.ref b4), .unset, .unset, .unset, .unset] []))
  refine own_st (fun t k => XS.aload X34.here hx rfl (hb hby at_47) rfl rfl k) ?_
  show OGo p e below s room_1 (OLawQ n0) (T34.setTop (mkF m 49 #[.val (.long q1), .second, .val (.int q2), .val (.int q3), .val (.ref b1), .val (.ref b2), .val (.ref b3), .val (.ref b4), .unset, .unset, .unset, .unset] [(.ref b4)]))
  refine own_st (fun t k => XS.iconst X34.here hx rfl (hb hby at_49) k) ?_
  show OGo p e below s room_1 (OLawQ n0) (T34.setTop (mkF m 50 #[.val (.long q1), .second, .val (.int q2), .val (.int q3), .val (.ref b1), .val (.ref b2), .val (.ref b3), .val (.ref b4), .unset, .unset, .unset, .unset] [(.int (0 : Int32)), (.ref b4)]))
  refine own_st (fun t k => XS.iloadN X34.here hx rfl (hb hby at_50) rfl k) ?_
  show OGo p e below s room_1 (OLawQ n0) (T34.setTop (mkF m 51 #[.val (.long q1), .second, .val (.int q2), .val (.int q3), .val (.ref b1), .val (.ref b2), .val (.ref b3), .val (.ref b4), .unset, .unset, .unset, .unset] [(.int q2), (.int (0 : Int32)), (.ref b4)]))
  obtain ⟨cl35, Ar35, Sz35, Hh35⟩ := id A_b4
  obtain ⟨T35, hp35, X35, e35, Ww35, st35⟩ := stI X34 hx hZ e34 Ar35 (j := (0 : Int32)) (own_in Sz35 (by decide) (by decide)) (g := (mkF m 51 #[.val (.long q1), .second, .val (.int q2), .val (.int q3), .val (.ref b1), .val (.ref b2), .val (.ref b3), .val (.ref b4), .unset, .unset, .unset, .unset] [(.int q2), (.int (0 : Int32)), (.ref b4)])) rfl rfl (hb hby at_51)
  have Nf35 := Fr.snoc X35 Nr33 old_b4
  have Z0 := Nat.le_trans Z0 (Keep.of_wr Ww35).1
  have S_COMPACT_STRINGS := S_COMPACT_STRINGS.wr Ww35
  have E_b1 := E_b1.wr Ww35
  have F_value_b1 := F_value_b1.other Ww35 (Or.inl ne_b1_b4)
  have E_b3 := E_b3.wr Ww35
  have F_coder_b3 := F_coder_b3.other Ww35 (Or.inl ne_b3_b4)
  have F_value_b3 := F_value_b3.other Ww35 (Or.inl ne_b3_b4)
  have A_t3 := A_t3.other Ww35 ne_t3_b4
  have E_b4 := E_b4.wr Ww35
  have A_b4 := OAr.set Ar35 Sz35 Hh35 Ww35
  refine own_st st35 ?_
  show OGo p e below s room_1 (OLawQ n0) (T35.setTop (mkF m 52 #[.val (.long q1), .second, .val (.int q2), .val (.int q3), .val (.ref b1), .val (.ref b2), .val (.ref b3), .val (.ref b4), .unset, .unset, .unset, .unset] []))
  refine own_st (fun t k => XS.aload X35.here hx rfl (hb hby at_52) rfl rfl k) ?_
  show OGo p e below s room_1 (OLawQ n0) (T35.setTop (mkF m 54 #[.val (.long q1), .second, .val (.int q2), .val (.int q3), .val (.ref b1), .val (.ref b2), .val (.ref b3), .val (.ref b4), .unset, .unset, .unset, .unset] [(.ref b1)]))
  obtain ⟨T36, X36, e36, st36⟩ := own_callSP X35 hx hZ (y := (⟨"com/example/do_all/doall/memory/SharedWords", "held", "(Ljava/lang/Object;)Ljava/lang/Object;"⟩ : MethodName)) (W := 0) hown (hw _ (List.mem_of_getElem? (i := 39) rfl)) (hw _ (List.mem_of_getElem? (i := 40) rfl)) (hw _ (List.mem_of_getElem? (i := 41) rfl)) (hw _ (List.mem_of_getElem? (i := 42) rfl)) (by decide) (rn4 l Z a0 hw b1 hp35) (by decide) (by decide) (g := (mkF m 54 #[.val (.long q1), .second, .val (.int q2), .val (.int q3), .val (.ref b1), .val (.ref b2), .val (.ref b3), .val (.ref b4), .unset, .unset, .unset, .unset] [(.ref b1)])) rfl (by rw [hml]; rfl) (argsL := [(.ref b1)]) (rest := []) (lenOf pd_9 rfl) rfl (by show 2 * 0 + _ ≤ _; exact Nat.le_of_eq rfl) (hb hby at_54) rfl e35 (by decide) (by decide)
  refine own_st st36 ?_
  show OGo p e below s room_1 (OLawQ n0) (T36.setTop (mkF m 57 #[.val (.long q1), .second, .val (.int q2), .val (.int q3), .val (.ref b1), .val (.ref b2), .val (.ref b3), .val (.ref b4), .unset, .unset, .unset, .unset] [(.ref b1)]))
  obtain ⟨T37, X37, e37, st37⟩ := castY X36 hx hZ hown (hw _ (List.mem_of_getElem? (i := 43) rfl)) e36 (Ins.self E_b1) (g := (mkF m 57 #[.val (.long q1), .second, .val (.int q2), .val (.int q3), .val (.ref b1), .val (.ref b2), .val (.ref b3), .val (.ref b4), .unset, .unset, .unset, .unset] [(.ref b1)])) rfl rfl (hb hby at_57)
  refine own_st st37 ?_
  show OGo p e below s room_1 (OLawQ n0) (T37.setTop (mkF m 60 #[.val (.long q1), .second, .val (.int q2), .val (.int q3), .val (.ref b1), .val (.ref b2), .val (.ref b3), .val (.ref b4), .unset, .unset, .unset, .unset] [(.ref b1)]))
  refine own_st (fun t k => XS.astore X37.here hx rfl (hb hby at_60) rfl rfl (l' := #[.val (.long q1), .second, .val (.int q2), .val (.int q3), .val (.ref b1), .val (.ref b2), .val (.ref b3), .val (.ref b4), .val (.ref b1), .unset, .unset, .unset]) rfl k) ?_
  show OGo p e below s room_1 (OLawQ n0) (T37.setTop (mkF m 62 #[.val (.long q1), .second, .val (.int q2), .val (.int q3), .val (.ref b1), .val (.ref b2), .val (.ref b3), .val (.ref b4), .val (.ref b1), .unset, .unset, .unset] []))
  refine own_st (fun t k => XS.aload X37.here hx rfl (hb hby at_62) rfl rfl k) ?_
  show OGo p e below s room_1 (OLawQ n0) (T37.setTop (mkF m 64 #[.val (.long q1), .second, .val (.int q2), .val (.int q3), .val (.ref b1), .val (.ref b2), .val (.ref b3), .val (.ref b4), .val (.ref b1), .unset, .unset, .unset] [(.ref b3)]))
  obtain ⟨T38, X38, e38, st38⟩ := own_callSP X37 hx hZ (y := (⟨"com/example/do_all/doall/memory/SharedWords", "held", "(Ljava/lang/Object;)Ljava/lang/Object;"⟩ : MethodName)) (W := 0) hown (hw _ (List.mem_of_getElem? (i := 39) rfl)) (hw _ (List.mem_of_getElem? (i := 40) rfl)) (hw _ (List.mem_of_getElem? (i := 41) rfl)) (hw _ (List.mem_of_getElem? (i := 42) rfl)) (by decide) (rn4 l Z a0 hw b3 hp35) (by decide) (by decide) (g := (mkF m 64 #[.val (.long q1), .second, .val (.int q2), .val (.int q3), .val (.ref b1), .val (.ref b2), .val (.ref b3), .val (.ref b4), .val (.ref b1), .unset, .unset, .unset] [(.ref b3)])) rfl (by rw [hml]; rfl) (argsL := [(.ref b3)]) (rest := []) (lenOf pd_9 rfl) rfl (by show 2 * 0 + _ ≤ _; exact Nat.le_of_eq rfl) (hb hby at_64) rfl e37 (by decide) (by decide)
  refine own_st st38 ?_
  show OGo p e below s room_1 (OLawQ n0) (T38.setTop (mkF m 67 #[.val (.long q1), .second, .val (.int q2), .val (.int q3), .val (.ref b1), .val (.ref b2), .val (.ref b3), .val (.ref b4), .val (.ref b1), .unset, .unset, .unset] [(.ref b3)]))
  obtain ⟨T39, X39, e39, st39⟩ := castY X38 hx hZ hown (hw _ (List.mem_of_getElem? (i := 9) rfl)) e38 (Ins.self E_b3) (g := (mkF m 67 #[.val (.long q1), .second, .val (.int q2), .val (.int q3), .val (.ref b1), .val (.ref b2), .val (.ref b3), .val (.ref b4), .val (.ref b1), .unset, .unset, .unset] [(.ref b3)])) rfl rfl (hb hby at_67)
  refine own_st st39 ?_
  show OGo p e below s room_1 (OLawQ n0) (T39.setTop (mkF m 70 #[.val (.long q1), .second, .val (.int q2), .val (.int q3), .val (.ref b1), .val (.ref b2), .val (.ref b3), .val (.ref b4), .val (.ref b1), .unset, .unset, .unset] [(.ref b3)]))
  refine own_st (fun t k => XS.astore X39.here hx rfl (hb hby at_70) rfl rfl (l' := #[.val (.long q1), .second, .val (.int q2), .val (.int q3), .val (.ref b1), .val (.ref b2), .val (.ref b3), .val (.ref b4), .val (.ref b1), .val (.ref b3), .unset, .unset]) rfl k) ?_
  show OGo p e below s room_1 (OLawQ n0) (T39.setTop (mkF m 72 #[.val (.long q1), .second, .val (.int q2), .val (.int q3), .val (.ref b1), .val (.ref b2), .val (.ref b3), .val (.ref b4), .val (.ref b1), .val (.ref b3), .unset, .unset] []))
  refine own_st (fun t k => XS.aload X39.here hx rfl (hb hby at_72) rfl rfl k) ?_
  show OGo p e below s room_1 (OLawQ n0) (T39.setTop (mkF m 74 #[.val (.long q1), .second, .val (.int q2), .val (.int q3), .val (.ref b1), .val (.ref b2), .val (.ref b3), .val (.ref b4), .val (.ref b1), .val (.ref b3), .unset, .unset] [(.ref b4)]))
  obtain ⟨T40, X40, e40, st40⟩ := own_callSP X39 hx hZ (y := (⟨"com/example/do_all/doall/memory/SharedWords", "held", "(Ljava/lang/Object;)Ljava/lang/Object;"⟩ : MethodName)) (W := 0) hown (hw _ (List.mem_of_getElem? (i := 39) rfl)) (hw _ (List.mem_of_getElem? (i := 40) rfl)) (hw _ (List.mem_of_getElem? (i := 41) rfl)) (hw _ (List.mem_of_getElem? (i := 42) rfl)) (by decide) (rn4 l Z a0 hw b4 hp35) (by decide) (by decide) (g := (mkF m 74 #[.val (.long q1), .second, .val (.int q2), .val (.int q3), .val (.ref b1), .val (.ref b2), .val (.ref b3), .val (.ref b4), .val (.ref b1), .val (.ref b3), .unset, .unset] [(.ref b4)])) rfl (by rw [hml]; rfl) (argsL := [(.ref b4)]) (rest := []) (lenOf pd_9 rfl) rfl (by show 2 * 0 + _ ≤ _; exact Nat.le_of_eq rfl) (hb hby at_74) rfl e39 (by decide) (by decide)
  refine own_st st40 ?_
  show OGo p e below s room_1 (OLawQ n0) (T40.setTop (mkF m 77 #[.val (.long q1), .second, .val (.int q2), .val (.int q3), .val (.ref b1), .val (.ref b2), .val (.ref b3), .val (.ref b4), .val (.ref b1), .val (.ref b3), .unset, .unset] [(.ref b4)]))
  obtain ⟨T41, X41, e41, st41⟩ := castY X40 hx hZ hown (hw _ (List.mem_of_getElem? (i := 45) rfl)) e40 (Ins.self E_b4) (g := (mkF m 77 #[.val (.long q1), .second, .val (.int q2), .val (.int q3), .val (.ref b1), .val (.ref b2), .val (.ref b3), .val (.ref b4), .val (.ref b1), .val (.ref b3), .unset, .unset] [(.ref b4)])) rfl rfl (hb hby at_77)
  refine own_st st41 ?_
  show OGo p e below s room_1 (OLawQ n0) (T41.setTop (mkF m 80 #[.val (.long q1), .second, .val (.int q2), .val (.int q3), .val (.ref b1), .val (.ref b2), .val (.ref b3), .val (.ref b4), .val (.ref b1), .val (.ref b3), .unset, .unset] [(.ref b4)]))
  refine own_st (fun t k => XS.astore X41.here hx rfl (hb hby at_80) rfl rfl (l' := #[.val (.long q1), .second, .val (.int q2), .val (.int q3), .val (.ref b1), .val (.ref b2), .val (.ref b3), .val (.ref b4), .val (.ref b1), .val (.ref b3), .val (.ref b4), .unset]) rfl k) ?_
  show OGo p e below s room_1 (OLawQ n0) (T41.setTop (mkF m 82 #[.val (.long q1), .second, .val (.int q2), .val (.int q3), .val (.ref b1), .val (.ref b2), .val (.ref b3), .val (.ref b4), .val (.ref b1), .val (.ref b3), .val (.ref b4), .unset] []))
  refine own_st (fun t k => XS.aload X41.here hx rfl (hb hby at_82) rfl rfl k) ?_
  show OGo p e below s room_1 (OLawQ n0) (T41.setTop (mkF m 84 #[.val (.long q1), .second, .val (.int q2), .val (.int q3), .val (.ref b1), .val (.ref b2), .val (.ref b3), .val (.ref b4), .val (.ref b1), .val (.ref b3), .val (.ref b4), .unset] [(.ref b3)]))
  obtain ⟨T42, X42, e42, st42⟩ := own_callSP X41 hx hZ (y := (⟨"com/example/do_all/doall/memory/SharedWords", "held", "(Ljava/lang/Object;)Ljava/lang/Object;"⟩ : MethodName)) (W := 0) hown (hw _ (List.mem_of_getElem? (i := 39) rfl)) (hw _ (List.mem_of_getElem? (i := 40) rfl)) (hw _ (List.mem_of_getElem? (i := 41) rfl)) (hw _ (List.mem_of_getElem? (i := 42) rfl)) (by decide) (rn4 l Z a0 hw b3 hp35) (by decide) (by decide) (g := (mkF m 84 #[.val (.long q1), .second, .val (.int q2), .val (.int q3), .val (.ref b1), .val (.ref b2), .val (.ref b3), .val (.ref b4), .val (.ref b1), .val (.ref b3), .val (.ref b4), .unset] [(.ref b3)])) rfl (by rw [hml]; rfl) (argsL := [(.ref b3)]) (rest := []) (lenOf pd_9 rfl) rfl (by show 2 * 0 + _ ≤ _; exact Nat.le_of_eq rfl) (hb hby at_84) rfl e41 (by decide) (by decide)
  refine own_st st42 ?_
  show OGo p e below s room_1 (OLawQ n0) (T42.setTop (mkF m 87 #[.val (.long q1), .second, .val (.int q2), .val (.int q3), .val (.ref b1), .val (.ref b2), .val (.ref b3), .val (.ref b4), .val (.ref b1), .val (.ref b3), .val (.ref b4), .unset] [(.ref b3)]))
  obtain ⟨T43, X43, e43, st43⟩ := castY X42 hx hZ hown (hw _ (List.mem_of_getElem? (i := 9) rfl)) e42 (Ins.self E_b3) (g := (mkF m 87 #[.val (.long q1), .second, .val (.int q2), .val (.int q3), .val (.ref b1), .val (.ref b2), .val (.ref b3), .val (.ref b4), .val (.ref b1), .val (.ref b3), .val (.ref b4), .unset] [(.ref b3)])) rfl rfl (hb hby at_87)
  refine own_st st43 ?_
  show OGo p e below s room_1 (OLawQ n0) (T43.setTop (mkF m 90 #[.val (.long q1), .second, .val (.int q2), .val (.int q3), .val (.ref b1), .val (.ref b2), .val (.ref b3), .val (.ref b4), .val (.ref b1), .val (.ref b3), .val (.ref b4), .unset] [(.ref b3)]))
  refine own_st (fun t k => XS.astore X43.here hx rfl (hb hby at_90) rfl rfl (l' := #[.val (.long q1), .second, .val (.int q2), .val (.int q3), .val (.ref b1), .val (.ref b2), .val (.ref b3), .val (.ref b4), .val (.ref b1), .val (.ref b3), .val (.ref b4), .val (.ref b3)]) rfl k) ?_
  show OGo p e below s room_1 (OLawQ n0) (T43.setTop (mkF m 92 #[.val (.long q1), .second, .val (.int q2), .val (.int q3), .val (.ref b1), .val (.ref b2), .val (.ref b3), .val (.ref b4), .val (.ref b1), .val (.ref b3), .val (.ref b4), .val (.ref b3)] []))
  refine own_st (fun t k => XS.aload X43.here hx rfl (hb hby at_92) rfl rfl k) ?_
  show OGo p e below s room_1 (OLawQ n0) (T43.setTop (mkF m 94 #[.val (.long q1), .second, .val (.int q2), .val (.int q3), .val (.ref b1), .val (.ref b2), .val (.ref b3), .val (.ref b4), .val (.ref b1), .val (.ref b3), .val (.ref b4), .val (.ref b3)] [(.ref b1)]))
  refine own_st (fun t k => XS.aload X43.here hx rfl (hb hby at_94) rfl rfl k) ?_
  show OGo p e below s room_1 (OLawQ n0) (T43.setTop (mkF m 96 #[.val (.long q1), .second, .val (.int q2), .val (.int q3), .val (.ref b1), .val (.ref b2), .val (.ref b3), .val (.ref b4), .val (.ref b1), .val (.ref b3), .val (.ref b4), .val (.ref b3)] [(.ref b1), (.ref b1)]))
  refine own_st (fun t k => Jvm.RoadKit.acmp (g := (mkF m 96 #[.val (.long q1), .second, .val (.int q2), .val (.int q3), .val (.ref b1), .val (.ref b2), .val (.ref b3), .val (.ref b4), .val (.ref b1), .val (.ref b3), .val (.ref b4), .val (.ref b3)] [(.ref b1), (.ref b1)])) X43 hx rfl rfl rfl (pc0 := 96) (pc' := 99) (same := true) rfl (hb hby at_96) rfl (decide_eq_true rfl) (by decide) (by decide) k) ?_
  show OGo p e below s room_1 (OLawQ n0) (T43.setTop (mkF m 99 #[.val (.long q1), .second, .val (.int q2), .val (.int q3), .val (.ref b1), .val (.ref b2), .val (.ref b3), .val (.ref b4), .val (.ref b1), .val (.ref b3), .val (.ref b4), .val (.ref b3)] []))
  refine own_st (fun t k => XS.aload X43.here hx rfl (hb hby at_99) rfl rfl k) ?_
  show OGo p e below s room_1 (OLawQ n0) (T43.setTop (mkF m 101 #[.val (.long q1), .second, .val (.int q2), .val (.int q3), .val (.ref b1), .val (.ref b2), .val (.ref b3), .val (.ref b4), .val (.ref b1), .val (.ref b3), .val (.ref b4), .val (.ref b3)] [(.ref b1)]))
  obtain ⟨T44, X44, e44, st44⟩ := own_callVP X43 hx hZ (y := (⟨"java/lang/Long", "longValue", "()J"⟩ : MethodName)) (z := (⟨"java/lang/Long", "longValue", "()J"⟩ : MethodName)) (W := 0) hown (hw _ (List.mem_of_getElem? (i := 47) rfl)) (hw _ (List.mem_of_getElem? (i := 48) rfl)) (notFace_of_selects (args := #[]) (mvT hZ (hw _ (List.mem_of_getElem? (i := 50) rfl)))) (hw _ (List.mem_of_getElem? (i := 50) rfl)) (hw _ (List.mem_of_getElem? (i := 49) rfl)) (hw _ (List.mem_of_getElem? (i := 51) rfl)) (hw _ (List.mem_of_getElem? (i := 2) rfl)) (by decide) (rn3 l Z a0 hw b1 q1 hp35 F_value_b1) (by decide) (by decide) E_b1 (g := (mkF m 101 #[.val (.long q1), .second, .val (.int q2), .val (.int q3), .val (.ref b1), .val (.ref b2), .val (.ref b3), .val (.ref b4), .val (.ref b1), .val (.ref b3), .val (.ref b4), .val (.ref b3)] [(.ref b1)])) rfl (by rw [hml]; rfl) (argsL := []) (rest := []) (lenOf pd_10 rfl) rfl (by show 2 * 0 + _ ≤ _; exact Nat.le_of_eq rfl) (hb hby at_101) rfl e43 (by decide) (by decide)
  refine own_st st44 ?_
  show OGo p e below s room_1 (OLawQ n0) (T44.setTop (mkF m 104 #[.val (.long q1), .second, .val (.int q2), .val (.int q3), .val (.ref b1), .val (.ref b2), .val (.ref b3), .val (.ref b4), .val (.ref b1), .val (.ref b3), .val (.ref b4), .val (.ref b3)] [(.long q1)]))
  refine own_st (fun t k => XS.lloadN X44.here hx rfl (hb hby at_104) rfl k) ?_
  show OGo p e below s room_1 (OLawQ n0) (T44.setTop (mkF m 105 #[.val (.long q1), .second, .val (.int q2), .val (.int q3), .val (.ref b1), .val (.ref b2), .val (.ref b3), .val (.ref b4), .val (.ref b1), .val (.ref b3), .val (.ref b4), .val (.ref b3)] [(.long q1), (.long q1)]))
  refine own_st (fun t k => XS.lcmp X44.here hx rfl (hb hby at_105) rfl k) ?_
  show OGo p e below s room_1 (OLawQ n0) (T44.setTop (mkF m 106 #[.val (.long q1), .second, .val (.int q2), .val (.int q3), .val (.ref b1), .val (.ref b2), .val (.ref b3), .val (.ref b4), .val (.ref b1), .val (.ref b3), .val (.ref b4), .val (.ref b3)] [(.int (lcmpW q1 q1))]))
  refine own_st (fun t k => XS.ifNo X44.here hx rfl (hb hby at_106) rfl ((if0 _ _).trans (teq ((lw_eq q1 q1).mpr rfl)).2) k) ?_
  show OGo p e below s room_1 (OLawQ n0) (T44.setTop (mkF m 109 #[.val (.long q1), .second, .val (.int q2), .val (.int q3), .val (.ref b1), .val (.ref b2), .val (.ref b3), .val (.ref b4), .val (.ref b1), .val (.ref b3), .val (.ref b4), .val (.ref b3)] []))
  refine own_st (fun t k => XS.aload X44.here hx rfl (hb hby at_109) rfl rfl k) ?_
  show OGo p e below s room_1 (OLawQ n0) (T44.setTop (mkF m 111 #[.val (.long q1), .second, .val (.int q2), .val (.int q3), .val (.ref b1), .val (.ref b2), .val (.ref b3), .val (.ref b4), .val (.ref b1), .val (.ref b3), .val (.ref b4), .val (.ref b3)] [(.ref b3)]))
  refine own_st (fun t k => XS.aload X44.here hx rfl (hb hby at_111) rfl rfl k) ?_
  show OGo p e below s room_1 (OLawQ n0) (T44.setTop (mkF m 113 #[.val (.long q1), .second, .val (.int q2), .val (.int q3), .val (.ref b1), .val (.ref b2), .val (.ref b3), .val (.ref b4), .val (.ref b1), .val (.ref b3), .val (.ref b4), .val (.ref b3)] [(.ref b3), (.ref b3)]))
  refine own_st (fun t k => Jvm.RoadKit.acmp (g := (mkF m 113 #[.val (.long q1), .second, .val (.int q2), .val (.int q3), .val (.ref b1), .val (.ref b2), .val (.ref b3), .val (.ref b4), .val (.ref b1), .val (.ref b3), .val (.ref b4), .val (.ref b3)] [(.ref b3), (.ref b3)])) X44 hx rfl rfl rfl (pc0 := 113) (pc' := 116) (same := true) rfl (hb hby at_113) rfl (decide_eq_true rfl) (by decide) (by decide) k) ?_
  show OGo p e below s room_1 (OLawQ n0) (T44.setTop (mkF m 116 #[.val (.long q1), .second, .val (.int q2), .val (.int q3), .val (.ref b1), .val (.ref b2), .val (.ref b3), .val (.ref b4), .val (.ref b1), .val (.ref b3), .val (.ref b4), .val (.ref b3)] []))
  refine own_st (fun t k => XS.aload X44.here hx rfl (hb hby at_116) rfl rfl k) ?_
  show OGo p e below s room_1 (OLawQ n0) (T44.setTop (mkF m 118 #[.val (.long q1), .second, .val (.int q2), .val (.int q3), .val (.ref b1), .val (.ref b2), .val (.ref b3), .val (.ref b4), .val (.ref b1), .val (.ref b3), .val (.ref b4), .val (.ref b3)] [(.ref b3)]))
  obtain ⟨T45, X45, e45, st45⟩ := own_callVP X44 hx hZ (y := (⟨"java/lang/String", "length", "()I"⟩ : MethodName)) (z := (⟨"java/lang/String", "length", "()I"⟩ : MethodName)) (W := 0) hown (hw _ (List.mem_of_getElem? (i := 54) rfl)) (hw _ (List.mem_of_getElem? (i := 55) rfl)) (notFace_of_selects (args := #[]) (mvT hZ (hw _ (List.mem_of_getElem? (i := 57) rfl)))) (hw _ (List.mem_of_getElem? (i := 57) rfl)) (hw _ (List.mem_of_getElem? (i := 56) rfl)) (hw _ (List.mem_of_getElem? (i := 58) rfl)) (hw _ (List.mem_of_getElem? (i := 11) rfl)) (by decide) (sc7 l Z a0 hw b3 t3 2 (own_c2 (nar .char (q2 &&& (255 : Int32)).toUInt32.toUInt16.toUInt32.toInt32) (nar .char (q3 &&& (255 : Int32)).toUInt32.toUInt16.toUInt32.toInt32)) cs hp35 E_b3 F_coder_b3 F_value_b3 A_t3 S_COMPACT_STRINGS hcs) (by decide) (by decide) E_b3 (g := (mkF m 118 #[.val (.long q1), .second, .val (.int q2), .val (.int q3), .val (.ref b1), .val (.ref b2), .val (.ref b3), .val (.ref b4), .val (.ref b1), .val (.ref b3), .val (.ref b4), .val (.ref b3)] [(.ref b3)])) rfl (by rw [hml]; rfl) (argsL := []) (rest := []) (lenOf pd_11 rfl) rfl (by show 2 * 0 + _ ≤ _; exact Nat.le_of_eq rfl) (hb hby at_118) rfl e44 (by decide) (by decide)
  refine own_st st45 ?_
  show OGo p e below s room_1 (OLawQ n0) (T45.setTop (mkF m 121 #[.val (.long q1), .second, .val (.int q2), .val (.int q3), .val (.ref b1), .val (.ref b2), .val (.ref b3), .val (.ref b4), .val (.ref b1), .val (.ref b3), .val (.ref b4), .val (.ref b3)] [(.int (Int32.ofNat 2))]))
  refine own_st (fun t k => XS.iconst X45.here hx rfl (hb hby at_121) k) ?_
  show OGo p e below s room_1 (OLawQ n0) (T45.setTop (mkF m 122 #[.val (.long q1), .second, .val (.int q2), .val (.int q3), .val (.ref b1), .val (.ref b2), .val (.ref b3), .val (.ref b4), .val (.ref b1), .val (.ref b3), .val (.ref b4), .val (.ref b3)] [(.int (2 : Int32)), (.int (Int32.ofNat 2))]))
  refine own_st (fun t k => XS.icmpNo X45.here hx rfl (hb hby at_122) rfl (teq (rfl)).2 k) ?_
  show OGo p e below s room_1 (OLawQ n0) (T45.setTop (mkF m 125 #[.val (.long q1), .second, .val (.int q2), .val (.int q3), .val (.ref b1), .val (.ref b2), .val (.ref b3), .val (.ref b4), .val (.ref b1), .val (.ref b3), .val (.ref b4), .val (.ref b3)] []))
  refine own_st (fun t k => XS.aload X45.here hx rfl (hb hby at_125) rfl rfl k) ?_
  show OGo p e below s room_1 (OLawQ n0) (T45.setTop (mkF m 127 #[.val (.long q1), .second, .val (.int q2), .val (.int q3), .val (.ref b1), .val (.ref b2), .val (.ref b3), .val (.ref b4), .val (.ref b1), .val (.ref b3), .val (.ref b4), .val (.ref b3)] [(.ref b4)]))
  refine own_st (fun t k => XS.aload X45.here hx rfl (hb hby at_127) rfl rfl k) ?_
  show OGo p e below s room_1 (OLawQ n0) (T45.setTop (mkF m 129 #[.val (.long q1), .second, .val (.int q2), .val (.int q3), .val (.ref b1), .val (.ref b2), .val (.ref b3), .val (.ref b4), .val (.ref b1), .val (.ref b3), .val (.ref b4), .val (.ref b3)] [(.ref b4), (.ref b4)]))
  refine own_st (fun t k => Jvm.RoadKit.acmp (g := (mkF m 129 #[.val (.long q1), .second, .val (.int q2), .val (.int q3), .val (.ref b1), .val (.ref b2), .val (.ref b3), .val (.ref b4), .val (.ref b1), .val (.ref b3), .val (.ref b4), .val (.ref b3)] [(.ref b4), (.ref b4)])) X45 hx rfl rfl rfl (pc0 := 129) (pc' := 132) (same := true) rfl (hb hby at_129) rfl (decide_eq_true rfl) (by decide) (by decide) k) ?_
  show OGo p e below s room_1 (OLawQ n0) (T45.setTop (mkF m 132 #[.val (.long q1), .second, .val (.int q2), .val (.int q3), .val (.ref b1), .val (.ref b2), .val (.ref b3), .val (.ref b4), .val (.ref b1), .val (.ref b3), .val (.ref b4), .val (.ref b3)] []))
  refine own_st (fun t k => XS.aload X45.here hx rfl (hb hby at_132) rfl rfl k) ?_
  show OGo p e below s room_1 (OLawQ n0) (T45.setTop (mkF m 134 #[.val (.long q1), .second, .val (.int q2), .val (.int q3), .val (.ref b1), .val (.ref b2), .val (.ref b3), .val (.ref b4), .val (.ref b1), .val (.ref b3), .val (.ref b4), .val (.ref b3)] [(.ref b4)]))
  refine own_st (fun t k => XS.iconst X45.here hx rfl (hb hby at_134) k) ?_
  show OGo p e below s room_1 (OLawQ n0) (T45.setTop (mkF m 135 #[.val (.long q1), .second, .val (.int q2), .val (.int q3), .val (.ref b1), .val (.ref b2), .val (.ref b3), .val (.ref b4), .val (.ref b1), .val (.ref b3), .val (.ref b4), .val (.ref b3)] [(.int (0 : Int32)), (.ref b4)]))
  obtain ⟨cl46, Ar46, Sz46, Hh46⟩ := id A_b4
  have hin46 := own_in (i := (0 : Int32)) Sz46 (by decide) (by decide)
  refine own_st (X45.iaload hx (j := (0 : Int32)) (v := (.int q2)) (by rw [e45]; exact Ar46.1) (State.isArrayOf_alike hZ.alike Ar46.2.1) Ar46.2.2 hin46 ((Hh46 _ (by decide)).trans (congrArg some rfl)) (g := (mkF m 135 #[.val (.long q1), .second, .val (.int q2), .val (.int q3), .val (.ref b1), .val (.ref b2), .val (.ref b3), .val (.ref b4), .val (.ref b1), .val (.ref b3), .val (.ref b4), .val (.ref b3)] [(.int (0 : Int32)), (.ref b4)])) rfl rfl (hb hby at_135)) ?_
  show OGo p e below s room_1 (OLawQ n0) (T45.setTop (mkF m 136 #[.val (.long q1), .second, .val (.int q2), .val (.int q3), .val (.ref b1), .val (.ref b2), .val (.ref b3), .val (.ref b4), .val (.ref b1), .val (.ref b3), .val (.ref b4), .val (.ref b3)] [(.int q2)]))
  refine own_st (fun t k => XS.iloadN X45.here hx rfl (hb hby at_136) rfl k) ?_
  show OGo p e below s room_1 (OLawQ n0) (T45.setTop (mkF m 137 #[.val (.long q1), .second, .val (.int q2), .val (.int q3), .val (.ref b1), .val (.ref b2), .val (.ref b3), .val (.ref b4), .val (.ref b1), .val (.ref b3), .val (.ref b4), .val (.ref b3)] [(.int q2), (.int q2)]))
  refine own_st (fun t k => XS.icmpNo X45.here hx rfl (hb hby at_137) rfl (teq (rfl)).2 k) ?_
  show OGo p e below s room_1 (OLawQ n0) (T45.setTop (mkF m 140 #[.val (.long q1), .second, .val (.int q2), .val (.int q3), .val (.ref b1), .val (.ref b2), .val (.ref b3), .val (.ref b4), .val (.ref b1), .val (.ref b3), .val (.ref b4), .val (.ref b3)] []))
  refine own_st (fun t k => XS.aload X45.here hx rfl (hb hby at_140) rfl rfl k) ?_
  show OGo p e below s room_1 (OLawQ n0) (T45.setTop (mkF m 142 #[.val (.long q1), .second, .val (.int q2), .val (.int q3), .val (.ref b1), .val (.ref b2), .val (.ref b3), .val (.ref b4), .val (.ref b1), .val (.ref b3), .val (.ref b4), .val (.ref b3)] [(.ref b3)]))
  refine own_st (fun t k => XS.aload X45.here hx rfl (hb hby at_142) rfl rfl k) ?_
  show OGo p e below s room_1 (OLawQ n0) (T45.setTop (mkF m 144 #[.val (.long q1), .second, .val (.int q2), .val (.int q3), .val (.ref b1), .val (.ref b2), .val (.ref b3), .val (.ref b4), .val (.ref b1), .val (.ref b3), .val (.ref b4), .val (.ref b3)] [(.ref b3), (.ref b3)]))
  refine own_st (fun t k => Jvm.RoadKit.acmp (g := (mkF m 144 #[.val (.long q1), .second, .val (.int q2), .val (.int q3), .val (.ref b1), .val (.ref b2), .val (.ref b3), .val (.ref b4), .val (.ref b1), .val (.ref b3), .val (.ref b4), .val (.ref b3)] [(.ref b3), (.ref b3)])) X45 hx rfl rfl rfl (pc0 := 144) (pc' := 147) (same := true) rfl (hb hby at_144) rfl (decide_eq_true rfl) (by decide) (by decide) k) ?_
  show OGo p e below s room_1 (OLawQ n0) (T45.setTop (mkF m 147 #[.val (.long q1), .second, .val (.int q2), .val (.int q3), .val (.ref b1), .val (.ref b2), .val (.ref b3), .val (.ref b4), .val (.ref b1), .val (.ref b3), .val (.ref b4), .val (.ref b3)] []))
  refine own_st (fun t k => XS.iconst X45.here hx rfl (hb hby at_147) k) ?_
  show OGo p e below s room_1 (OLawQ n0) (T45.setTop (mkF m 148 #[.val (.long q1), .second, .val (.int q2), .val (.int q3), .val (.ref b1), .val (.ref b2), .val (.ref b3), .val (.ref b4), .val (.ref b1), .val (.ref b3), .val (.ref b4), .val (.ref b3)] [(.int (1 : Int32))]))
  refine own_st (fun t k => XS.goto X45.here hx rfl (pc0 := 148) (pc' := 152) rfl (hb hby at_148) (by decide) (by decide) k) ?_
  show OGo p e below s room_1 (OLawQ n0) (T45.setTop (mkF m 152 #[.val (.long q1), .second, .val (.int q2), .val (.int q3), .val (.ref b1), .val (.ref b2), .val (.ref b3), .val (.ref b4), .val (.ref b1), .val (.ref b3), .val (.ref b4), .val (.ref b3)] [(.int (1 : Int32))]))
  exact own_retN X45 hx hlk (t := .boolean) hret (by simp) (hb hby at_152) (by decide) (by decide) (⟨rfl, Nf35⟩)
section OwnTab
variable {args : Array Value} {s : State} {t : Term} {a : Addr} {cl : Cell}
theorem own_len2 {n : Int32} {k : Nat} (ht : t.eval args s none [] s = some (.ref a)) (hA : s.arrayAt? a = some cl) (hn : n.toInt = k) (h : (Jvm.Cond.eq (.length t) (.int n)).value args s none s [] = some true) : cl.slots.size = k := by
  by_cases hl : cl.slots.size < 2 ^ 31
  · have e := len_f ht hA hl
    have h' : cl.slots.size.toInt32 = n := by
      simp only [Cond.value, e, Term.int_eval] at h
      simpa using h
    have q := len_toInt hl
    rw [h', hn] at q
    omega
  · simp [Cond.value, Term.eval, ht, hA, hl] at h
theorem own_cache (hb : ∀ idx, t.eval args s none idx s = some (.ref a)) (k1 : (Jvm.Cond.arrayOf t (.object "java/lang/Long")).value args s none s [] = some true) (k2 : (Jvm.Cond.eq (.length t) (.int 256)).value args s none s [] = some true)
    (k3 : (Jvm.Cond.all t (.and (.exactly (.elem t (.index 0)) "java/lang/Long") (.eq (.field (.elem t (.index 0)) "java/lang/Long" "value" "J") (.op1 .i2l (.sub (.index 0) (.int 128)))))).value args s none s [] = some true) : OCache s s.heap a := by
  obtain ⟨cl, A⟩ := Arr.start (hb []) k1
  have hA := A.fin (Vm.Alike.refl _)
  have hs : cl.slots.size = 256 := own_len2 (hb []) hA (by decide) k2
  refine ⟨cl, A, hs, fun j hj => ?_⟩
  obtain ⟨q1, q2⟩ := and_e (Cond.all_elim (hb []) hA k3 j (by omega))
  have ei : (Term.index 0).eval args s none [j] s = some (.int (Int32.ofNat j)) := rfl
  have ee := elem_f (hb [j]) ei hA (own_nat (by omega)).2.1
  rw [(own_nat (by omega)).1] at ee
  obtain ⟨a', c', cell, k, e1, e2, e3, e4, e5, rfl, e7⟩ := Cond.exactly_spec (beq_iff_eq.mpr q1 : (Jvm.Cond.exactly (.elem t (.index 0)) "java/lang/Long").holds args s none s [j] = true)
  refine ⟨a', ?_, ⟨cell, k, e3, e2, e4, e5, e7⟩, Fld.start ?_⟩
  · rw [← ee]; exact e1
  · have ef := fld_at (C := "java/lang/Long") (n := "value") (dd := "J") e1
    have er : (Term.op1 .i2l (.sub (.index 0) (.int 128))).eval args s none [j] s = some (.long (Int32.ofNat j - (128 : Int32)).toInt64) := rfl
    cases hf : s.fieldOf? a' "java/lang/Long" "value" "J" with
    | none => rw [hf] at ef; simp only [Cond.value, ef] at q2; cases q2
    | some x =>
      rw [hf] at ef
      cases x <;> simp only [Cond.value, ef, er] at q2 <;> first | (cases q2; done) | skip
      simp only [Option.some.injEq, decide_eq_true_eq] at q2
      rw [q2]
end OwnTab
set_option maxRecDepth 65536 in
set_option maxHeartbeats 40000000 in
theorem comes_1 {Post : Tables → Env → Array Value → State → Outcome → State → Prop} (hpost : ∀ tb e args s v u, (limb_1_1.after args s (.returned v) u = true ∧ limb_1_2.after args s (.returned v) u = true ∧ True) → FrameEnd s (.returned v) u (Jvm.fieldLocs frame_1_writes args s ++ Jvm.arrayLocs frame_1_arrays args s ++ Jvm.staticLocs frame_1_statics s) 24 128 → Post tb e args s (.returned v) u) :
    ArmFor flags0 classFile x code maxLocals ret World_1 tables_1 room_1 Calls_1 rest_1 Pre_1 Post := by
  intro l hfl _ _ p e ha hc hk s m args below hf hA hF happ hP
  obtain ⟨hcalls, hrest, hpre⟩ := hP
  obtain ⟨-, -, -, hnamed, -, -, -, hat⟩ := (Spec.applies_iff hf).mp happ
  obtain ⟨hg, hn⟩ := and_e (Cond.before_iff.mp (show (Jvm.Cond.and given_1 narrow_1).before args s = true from hpre))
  obtain ⟨gs1, gs2⟩ := and_e hg
  obtain ⟨gs3, gs4⟩ := and_e gs2
  obtain ⟨gs5, gs6⟩ := and_e gs4
  obtain ⟨w0, w1, w2, rfl⟩ : ∃ w0 w1 w2 : Value, args = #[w0, w1, w2] := by
    have hs : args.size = 3 := by simpa [Cond.value, given_1] using gs1
    obtain ⟨L⟩ := args
    match L, hs with
    | [w0, w1, w2], _ => exact ⟨w0, w1, w2, rfl⟩
  have hw := fun d (hd : d ∈ tables_1) => atoms_spec (ws := Jvm.Cond.code x code maxLocals ret :: tables_1) hat d (List.mem_cons_of_mem _ hd)
  have hfit : Fit s := fun {y c} hc i hi => by
    obtain ⟨ha, rfl⟩ := Array.getElem?_eq_some_iff.mp hc
    have q := List.all_eq_true.mp ((Array.all_eq_true_iff_forall_mem.mp hF) _ (Array.getElem_mem ha)) i (List.mem_range.mpr hi)
    simpa [Array.getElem?_eq_getElem hi] using q
  obtain ⟨hsets, hown0⟩ := atoms_of _ (rest_1_c_eq ▸ (show rest_1_c.before _ s = true from hrest))
  have hr0 := Cond.before_iff.mp hown0
  obtain ⟨i0, ei0⟩ := isL_v gs3
  obtain rfl : w0 = (.long i0) := Option.some.inj ei0
  obtain ⟨i1, ei1⟩ := is_v gs5
  obtain rfl : w1 = (.int i1) := Option.some.inj ei1
  obtain ⟨i2, ei2⟩ := is_v gs6
  obtain rfl : w2 = (.int i2) := Option.some.inj ei2
  have u2 := Cond.before_iff.mp (hsets _ (List.mem_of_getElem? (i := 2) rfl))
  obtain ⟨b0, hb0⟩ := arr_v u2
  have hS := Sta.start hb0 (Or.inl (hsets _ (List.mem_of_getElem? (i := 1) rfl)))
  have hC := own_cache (fun idx => hb0) u2 (Cond.before_iff.mp (hsets _ (List.mem_of_getElem? (i := 4) rfl))) (Cond.before_iff.mp (hsets _ (List.mem_of_getElem? (i := 5) rfl)))
  obtain ⟨cs, hcs⟩ := is_v (Cond.before_iff.mp (hsets _ (List.mem_of_getElem? (i := 7) rfl)))
  have hS2 := Sta.start hcs (Or.inl (hsets _ (List.mem_of_getElem? (i := 6) rfl)))
  have hnz : ¬ cs = (0 : Int32) := by
    have u8 := not_v (Cond.before_iff.mp (hsets _ (List.mem_of_getElem? (i := 8) rfl)))
    simp only [Cond.value, hcs, Term.int_eval] at u8
    simpa using u8
  obtain ⟨n, o, h1, h2, h3, _, L, rfl, ⟨rfl, N⟩, hq⟩ := rm0 l s _ hw tables_1 i0 i1 i2 b0 cs s.heap s.heap.size (Nat.le_refl _) hS hC hS2 hnz p e ha hc hk s m _ below hf ((Spec.applies_iff_loose hf).mp happ).1 ⟨rfl, State.Warmed39.refl s, rfl⟩ trivial
  refine ⟨n, _, h1, h2, h3, hpost _ _ _ _ _ _ ⟨Cond.after_iff.mpr rfl, Cond.after_iff.mpr (eq_i res_at (Term.int_eval (1)) rfl), trivial⟩ ⟨hq.1, hq.2.1, (hq.2.2.sift fun y hy => Or.inr (N y hy)).mono (by decide) (by decide)⟩⟩
theorem main_1_1 : Claimed_1_1 := comes_1 fun _ _ _ _ _ _ h hF => ⟨h.1, hF⟩
theorem main_1_2 : Claimed_1_2 := comes_1 fun _ _ _ _ _ _ h hF => ⟨h.2.1, hF⟩
end Jvm.Pilot.@@N@@
namespace Jvm.Pilot.@@N@@
open Jvm Jvm.ClassFile Sem Op Lib Jvm.Free Jvm.Stand Jvm.Pilot.@@N@@.Jvm.D
/-! MADE BY PROGRAM (witnessworld.py) out of the Statement's table words and the real class files: 24 classes; the members and pool entries that the words name. The judged class is class 1, her method 1. -/
namespace start1
open Jvm.ClassFile
def u (s : String) : CpInfo := .utf8 (stringToUtf16 s)
/-- a pool by its gaps: so many unusable entries, then the entry; so many at the end -/
def gap : Nat → List CpInfo → List CpInfo
  | 0, r => r
  | n + 1, r => .unusable :: gap n r
def poolList (es : List (Nat × CpInfo)) (last : Nat) : List CpInfo := es.foldr (fun e r => gap e.1 (e.2 :: r)) (gap last [])
def pool (es : List (Nat × CpInfo)) (last : Nat) : Array CpInfo := ⟨poolList es last⟩
def fileOf (pool : Array CpInfo) (this : Nat) (attrs : Array Attribute := #[]) (ms : Array MethodInfo := #[]) (fl : Nat := 33) (sup : Nat := 0) (ifs : Array Nat := #[]) (fds : Array FieldInfo := #[]) : ClassFile where
  minorVersion := 0
  majorVersion := 65
  constantPool := pool
  accessFlags := fl
  thisClass := this
  superClass := sup
  interfaces := ifs
  fields := fds
  methods := ms
  attributes := attrs
def plain (name : String) (sup : Option ClassId) : Class where
  name := name
  kind := .ordinary
  loader := none
  accessFlags := 33
  super := sup
  interfaces := #[]
  cf := none
  fields := #[]
  methods := #[]
  instanceTypes := #[]
  staticTypes := #[]
  resolved := #[]
  callSites := []
  init := .initialized
  statics := none
  mirror := none

def pool0 : Array CpInfo := pool [(5, u "<init>"), (0, u "()V"), (1, .class_ 10), (1, u "java/lang/Object")] 113

def k0c0 : Code := { maxStack := 0, maxLocals := 1, code := object_method_1_code, exceptionTable := #[], attributes := #[] }
def k0m0 : Method := { name := "<init>", desc := "()V", sig := { parameters := [], returnType := none }, accessFlags := 1, code := some k0c0 }
/-- java/lang/Object -/
def k0 : Class := { plain "java/lang/Object" none with
  accessFlags := 33
  interfaces := #[]
  cf := some (fileOf pool0 8 #[] #[{ accessFlags := 1, nameIndex := 5, descriptorIndex := 6, attributes := #[] }] 33 0 #[] #[])
  fields := #[]
  methods := #[k0m0]
  instanceTypes := #[]
  staticTypes := #[]
  resolved := Array.replicate 124 none
  statics := none }

def pool1 : Array CpInfo := pool [(2, .class_ 4), (1, u "java/lang/Object"), (0, u "<init>"), (0, u "()V"), (0, .methodref 8 9), (0, .class_ 10), (0, .nameAndType 11 12), (0, u "java/lang/Long"), (0, u "valueOf"), (0, u "(J)Ljava/lang/Long;"), (0, .class_ 14), (0, u "java/lang/String"), (0, .methodref 13 16), (0, .nameAndType 5 17), (0, u "([C)V"), (0, .methodref 19 20), (0, .class_ 21), (0, .nameAndType 22 23), (0, u "com/example/do_all/doall/memory/SharedWords"), (0, u "held"), (0, u "(Ljava/lang/Object;)Ljava/lang/Object;"), (0, .class_ 25), (0, u "[I"), (0, .methodref 8 27), (0, .nameAndType 28 29), (0, u "longValue"), (0, u "()J"), (0, .methodref 13 31), (0, .nameAndType 32 33), (0, u "length"), (0, u "()I"), (0, .class_ 35), (0, u "com/example/do_all/doall/memory/SharedWordsHeldPinLaw"), (2, u "law"), (0, u "(JII)Z")] 5

def k1m0 : Method := { name := "<init>", desc := "()V", sig := { parameters := [], returnType := none }, accessFlags := 1, code := none }
def k1c1 : Code := { maxStack := 4, maxLocals := 12, code := code, exceptionTable := #[], attributes := #[] }
def k1m1 : Method := { name := "law", desc := "(JII)Z", sig := { parameters := [.long, .int, .int], returnType := some .boolean }, accessFlags := 9, code := some k1c1 }
/-- com/example/do_all/doall/memory/SharedWordsHeldPinLaw -/
def k1 : Class := { plain "com/example/do_all/doall/memory/SharedWordsHeldPinLaw" (some 0) with
  accessFlags := 49
  interfaces := #[]
  cf := some (fileOf pool1 34 #[] #[{ accessFlags := 1, nameIndex := 5, descriptorIndex := 6, attributes := #[] }, { accessFlags := 9, nameIndex := 38, descriptorIndex := 39, attributes := #[] }] 49 2 #[] #[])
  fields := #[]
  methods := #[k1m0, k1m1]
  instanceTypes := #[]
  staticTypes := #[]
  resolved := Array.replicate 45 none
  statics := none }

def pool2 : Array CpInfo := pool [(1, .class_ 2), (0, u "java/io/Serializable"), (0, .class_ 4), (0, u "java/lang/Object")] 2

/-- java/io/Serializable -/
def k2 : Class := { plain "java/io/Serializable" (some 0) with
  accessFlags := 1537
  interfaces := #[]
  cf := some (fileOf pool2 1 #[] #[] 1537 3 #[] #[])
  fields := #[]
  methods := #[]
  instanceTypes := #[]
  staticTypes := #[]
  resolved := Array.replicate 7 none
  statics := none }

def pool3 : Array CpInfo := pool [(1, .methodref 2 3), (0, .class_ 4), (0, .nameAndType 5 6), (0, u "java/lang/Object"), (0, u "<init>"), (0, u "()V"), (1, .class_ 10), (1, u "java/lang/Number"), (2, .class_ 14), (0, u "java/io/Serializable"), (0, u "serialVersionUID"), (0, u "J")] 20

def k3c0 : Code := { maxStack := 1, maxLocals := 1, code := jdk_18_method_1_code, exceptionTable := #[], attributes := #[] }
def k3m0 : Method := { name := "<init>", desc := "()V", sig := { parameters := [], returnType := none }, accessFlags := 1, code := some k3c0 }
/-- java/lang/Number -/
def k3 : Class := { plain "java/lang/Number" (some 0) with
  accessFlags := 1057
  interfaces := #[2]
  cf := some (fileOf pool3 8 #[] #[{ accessFlags := 1, nameIndex := 5, descriptorIndex := 6, attributes := #[] }] 1057 2 #[13] #[{ accessFlags := 26, nameIndex := 15, descriptorIndex := 16, attributes := #[] }])
  fields := #[{ name := "serialVersionUID", type := .long, accessFlags := 26, slot := 0, constantValue := 0 }]
  methods := #[k3m0]
  instanceTypes := #[]
  staticTypes := #[.long]
  resolved := Array.replicate 37 none
  statics := none }

def pool4 : Array CpInfo := pool [(1, .class_ 2), (0, u "java/lang/Comparable"), (0, .class_ 4), (0, u "java/lang/Object")] 7

/-- java/lang/Comparable -/
def k4 : Class := { plain "java/lang/Comparable" (some 0) with
  accessFlags := 1537
  interfaces := #[]
  cf := some (fileOf pool4 1 #[] #[] 1537 3 #[] #[])
  fields := #[]
  methods := #[]
  instanceTypes := #[]
  staticTypes := #[]
  resolved := Array.replicate 12 none
  statics := none }

def pool5 : Array CpInfo := pool [(1, .class_ 2), (0, u "java/lang/constant/Constable"), (0, .class_ 4), (0, u "java/lang/Object")] 6

/-- java/lang/constant/Constable -/
def k5 : Class := { plain "java/lang/constant/Constable" (some 0) with
  accessFlags := 1537
  interfaces := #[]
  cf := some (fileOf pool5 1 #[] #[] 1537 3 #[] #[])
  fields := #[]
  methods := #[]
  instanceTypes := #[]
  staticTypes := #[]
  resolved := Array.replicate 11 none
  statics := none }

def pool6 : Array CpInfo := pool [(1, .class_ 2), (0, u "java/lang/constant/ConstantDesc"), (0, .class_ 4), (0, u "java/lang/Object")] 32

/-- java/lang/constant/ConstantDesc -/
def k6 : Class := { plain "java/lang/constant/ConstantDesc" (some 0) with
  accessFlags := 1537
  interfaces := #[]
  cf := some (fileOf pool6 1 #[] #[] 1537 3 #[] #[])
  fields := #[]
  methods := #[]
  instanceTypes := #[]
  staticTypes := #[]
  resolved := Array.replicate 37 none
  statics := none }

def pool7 : Array CpInfo := pool [(1, .class_ 2), (0, u "java/lang/Long"), (55, .nameAndType 59 60), (0, u "<init>"), (0, u "()V"), (24, u "valueOf"), (143, u "(J)Ljava/lang/Long;"), (0, .long 18446744073709551488), (1, .long 127), (1, .fieldref 235 236), (0, .class_ 237), (0, .nameAndType 238 239), (0, u "java/lang/Long$LongCache"), (0, u "cache"), (0, u "[Ljava/lang/Long;"), (0, .methodref 1 241), (0, .nameAndType 59 242), (0, u "(J)V"), (27, .methodref 271 58), (0, .class_ 272), (0, u "java/lang/Number"), (0, .fieldref 1 274), (0, .nameAndType 275 276), (0, u "value"), (0, u "J"), (5, u "longValue"), (0, u "()J"), (77, u "TYPE"), (0, u "Ljava/lang/Class;"), (0, .class_ 364), (0, u "java/lang/Comparable"), (0, .class_ 366), (0, u "java/lang/constant/Constable"), (0, .class_ 368), (0, u "java/lang/constant/ConstantDesc"), (0, u "MIN_VALUE"), (1, u "MAX_VALUE"), (4, u "SIZE"), (0, u "I"), (1, u "BYTES"), (1, u "serialVersionUID")] 142

def k7c0 : Code := { maxStack := 4, maxLocals := 3, code := jdk_35_method_24_code, exceptionTable := #[], attributes := #[] }
def k7m0 : Method := { name := "valueOf", desc := "(J)Ljava/lang/Long;", sig := { parameters := [.long], returnType := some (.object "java/lang/Long") }, accessFlags := 9, code := some k7c0 }
def k7c1 : Code := { maxStack := 3, maxLocals := 3, code := jdk_35_method_26_code, exceptionTable := #[], attributes := #[] }
def k7m1 : Method := { name := "<init>", desc := "(J)V", sig := { parameters := [.long], returnType := none }, accessFlags := 1, code := some k7c1 }
def k7c2 : Code := { maxStack := 2, maxLocals := 1, code := jdk_35_method_31_code, exceptionTable := #[], attributes := #[] }
def k7m2 : Method := { name := "longValue", desc := "()J", sig := { parameters := [], returnType := some .long }, accessFlags := 1, code := some k7c2 }
/-- java/lang/Long -/
def k7 : Class := { plain "java/lang/Long" (some 3) with
  accessFlags := 49
  interfaces := #[4, 5, 6]
  cf := some (fileOf pool7 1 #[.nestMembers #[235]] #[{ accessFlags := 9, nameIndex := 85, descriptorIndex := 229, attributes := #[] }, { accessFlags := 1, nameIndex := 59, descriptorIndex := 242, attributes := #[] }, { accessFlags := 1, nameIndex := 282, descriptorIndex := 283, attributes := #[] }] 49 271 #[363, 365, 367] #[{ accessFlags := 25, nameIndex := 369, descriptorIndex := 276, attributes := #[] }, { accessFlags := 25, nameIndex := 371, descriptorIndex := 276, attributes := #[] }, { accessFlags := 25, nameIndex := 361, descriptorIndex := 362, attributes := #[] }, { accessFlags := 18, nameIndex := 275, descriptorIndex := 276, attributes := #[] }, { accessFlags := 25, nameIndex := 376, descriptorIndex := 377, attributes := #[] }, { accessFlags := 25, nameIndex := 379, descriptorIndex := 377, attributes := #[] }, { accessFlags := 26, nameIndex := 381, descriptorIndex := 276, attributes := #[] }])
  fields := #[{ name := "MIN_VALUE", type := .long, accessFlags := 25, slot := 0, constantValue := 0 }, { name := "MAX_VALUE", type := .long, accessFlags := 25, slot := 1, constantValue := 0 }, { name := "TYPE", type := (.object "java/lang/Class"), accessFlags := 25, slot := 2, constantValue := 0 }, { name := "value", type := .long, accessFlags := 18, slot := 0, constantValue := 0 }, { name := "SIZE", type := .int, accessFlags := 25, slot := 3, constantValue := 0 }, { name := "BYTES", type := .int, accessFlags := 25, slot := 4, constantValue := 0 }, { name := "serialVersionUID", type := .long, accessFlags := 26, slot := 5, constantValue := 0 }]
  methods := #[k7m0, k7m1, k7m2]
  instanceTypes := #[.long]
  staticTypes := #[.long, .long, (.object "java/lang/Class"), .int, .int, .long]
  resolved := Array.replicate 524 none
  statics := none }

def pool8 : Array CpInfo := pool [(2, .class_ 4), (1, u "java/lang/Object"), (0, u "<init>"), (0, u "()V"), (0, .class_ 8), (0, u "java/lang/Long"), (7, .class_ 18), (1, u "java/lang/Long$LongCache"), (0, u "$assertionsDisabled"), (0, u "Z"), (8, u "archivedCache"), (0, u "[Ljava/lang/Long;"), (7, u "cache")] 24

def k8m0 : Method := { name := "<init>", desc := "()V", sig := { parameters := [], returnType := none }, accessFlags := 2, code := none }
/-- java/lang/Long$LongCache -/
def k8 : Class := { plain "java/lang/Long$LongCache" (some 0) with
  accessFlags := 48
  interfaces := #[]
  cf := some (fileOf pool8 16 #[.nestHost 7] #[{ accessFlags := 2, nameIndex := 5, descriptorIndex := 6, attributes := #[] }] 48 2 #[] #[{ accessFlags := 24, nameIndex := 38, descriptorIndex := 30, attributes := #[] }, { accessFlags := 8, nameIndex := 29, descriptorIndex := 30, attributes := #[] }, { accessFlags := 4120, nameIndex := 19, descriptorIndex := 20, attributes := #[] }])
  fields := #[{ name := "cache", type := (.array (.object "java/lang/Long")), accessFlags := 24, slot := 0, constantValue := 0 }, { name := "archivedCache", type := (.array (.object "java/lang/Long")), accessFlags := 8, slot := 1, constantValue := 0 }, { name := "$assertionsDisabled", type := .boolean, accessFlags := 4120, slot := 2, constantValue := 0 }]
  methods := #[k8m0]
  instanceTypes := #[]
  staticTypes := #[(.array (.object "java/lang/Long")), (.array (.object "java/lang/Long")), .boolean]
  resolved := Array.replicate 63 none
  statics := some 0 }

def pool9 : Array CpInfo := pool [(2, .class_ 4), (1, u "java/lang/CharSequence"), (42, .class_ 48), (0, u "java/lang/CharSequence$1CodePointIterator"), (10, .class_ 60), (0, u "java/lang/CharSequence$1CharIterator"), (5, .class_ 67), (0, u "java/lang/Object")] 63

/-- java/lang/CharSequence -/
def k9 : Class := { plain "java/lang/CharSequence" (some 0) with
  accessFlags := 1537
  interfaces := #[]
  cf := some (fileOf pool9 2 #[.nestMembers #[47, 59]] #[] 1537 66 #[] #[])
  fields := #[]
  methods := #[]
  instanceTypes := #[]
  staticTypes := #[]
  resolved := Array.replicate 131 none
  statics := none }

def pool10 : Array CpInfo := pool [(1, .methodref 2 3), (0, .class_ 4), (0, .nameAndType 5 6), (0, u "java/lang/Object"), (0, u "<init>"), (0, u "()V"), (2, .fieldref 10 11), (0, .class_ 12), (0, .nameAndType 13 14), (0, u "java/lang/String"), (0, u "value"), (0, u "[B"), (0, .fieldref 10 16), (0, .nameAndType 17 18), (0, u "coder"), (0, u "B"), (2, u "hash"), (0, u "I"), (2, u "hashIsZero"), (0, u "Z"), (0, .methodref 10 28), (0, .nameAndType 5 29), (0, u "([CIILjava/lang/Void;)V"), (8, .fieldref 10 39), (0, .nameAndType 40 26), (0, u "COMPACT_STRINGS"), (1, .class_ 44), (1, u "java/lang/StringUTF16"), (0, u "compress"), (1, .methodref 42 48), (0, .nameAndType 49 50), (0, u "coderFromArrayLen"), (0, u "([BI)B"), (126, .methodref 42 178), (0, .nameAndType 45 179), (0, u "([CII)[B"), (154, u "()I"), (0, .methodref 10 336), (0, .nameAndType 17 337), (0, u "()B"), (169, u "length"), (67, .class_ 576), (0, u "java/lang/CharSequence"), (22, u "CASE_INSENSITIVE_ORDER"), (0, u "Ljava/util/Comparator;"), (409, u "([C)V"), (90, u "serialPersistentFields"), (0, u "[Ljava/io/ObjectStreamField;"), (0, .class_ 1104), (0, u "java/lang/String$CaseInsensitiveComparator"), (1, .class_ 1107), (0, u "java/io/Serializable"), (0, .class_ 1109), (0, u "java/lang/Comparable"), (0, .class_ 1111), (0, u "java/lang/constant/Constable"), (0, .class_ 1113), (0, u "java/lang/constant/ConstantDesc"), (2, u "serialVersionUID"), (0, u "J"), (3, u "REPL"), (0, u "C"), (2, u "LATIN1"), (1, u "UTF16")] 323

def k10m0 : Method := { name := "<init>", desc := "()V", sig := { parameters := [], returnType := none }, accessFlags := 1, code := none }
def k10c1 : Code := { maxStack := 5, maxLocals := 2, code := jdk_42_method_3_code, exceptionTable := #[], attributes := #[] }
def k10m1 : Method := { name := "<init>", desc := "([C)V", sig := { parameters := [(.array .char)], returnType := none }, accessFlags := 1, code := some k10c1 }
def k10c2 : Code := { maxStack := 2, maxLocals := 1, code := jdk_42_method_54_code, exceptionTable := #[], attributes := #[] }
def k10m2 : Method := { name := "length", desc := "()I", sig := { parameters := [], returnType := some .int }, accessFlags := 1, code := some k10c2 }
def k10c3 : Code := { maxStack := 4, maxLocals := 6, code := jdk_42_method_149_code, exceptionTable := #[], attributes := #[] }
def k10m3 : Method := { name := "<init>", desc := "([CIILjava/lang/Void;)V", sig := { parameters := [(.array .char), .int, .int, (.object "java/lang/Void")], returnType := none }, accessFlags := 2, code := some k10c3 }
def k10c4 : Code := { maxStack := 1, maxLocals := 1, code := jdk_42_method_152_code, exceptionTable := #[], attributes := #[] }
def k10m4 : Method := { name := "coder", desc := "()B", sig := { parameters := [], returnType := some .byte }, accessFlags := 0, code := some k10c4 }
/-- java/lang/String -/
def k10 : Class := { plain "java/lang/String" (some 0) with
  accessFlags := 49
  interfaces := #[2, 4, 9, 5, 6]
  cf := some (fileOf pool10 10 #[.nestMembers #[1103]] #[{ accessFlags := 1, nameIndex := 5, descriptorIndex := 6, attributes := #[] }, { accessFlags := 1, nameIndex := 5, descriptorIndex := 1010, attributes := #[] }, { accessFlags := 1, nameIndex := 507, descriptorIndex := 334, attributes := #[] }, { accessFlags := 2, nameIndex := 5, descriptorIndex := 29, attributes := #[] }, { accessFlags := 0, nameIndex := 17, descriptorIndex := 337, attributes := #[] }] 49 2 #[1106, 1108, 575, 1110, 1112] #[{ accessFlags := 18, nameIndex := 13, descriptorIndex := 14, attributes := #[] }, { accessFlags := 18, nameIndex := 17, descriptorIndex := 18, attributes := #[] }, { accessFlags := 2, nameIndex := 21, descriptorIndex := 22, attributes := #[] }, { accessFlags := 2, nameIndex := 25, descriptorIndex := 26, attributes := #[] }, { accessFlags := 26, nameIndex := 1116, descriptorIndex := 1117, attributes := #[] }, { accessFlags := 24, nameIndex := 40, descriptorIndex := 26, attributes := #[] }, { accessFlags := 26, nameIndex := 1101, descriptorIndex := 1102, attributes := #[] }, { accessFlags := 26, nameIndex := 1121, descriptorIndex := 1122, attributes := #[] }, { accessFlags := 25, nameIndex := 599, descriptorIndex := 600, attributes := #[] }, { accessFlags := 24, nameIndex := 1125, descriptorIndex := 18, attributes := #[] }, { accessFlags := 24, nameIndex := 1127, descriptorIndex := 18, attributes := #[] }])
  fields := #[{ name := "value", type := (.array .byte), accessFlags := 18, slot := 0, constantValue := 0 }, { name := "coder", type := .byte, accessFlags := 18, slot := 1, constantValue := 0 }, { name := "hash", type := .int, accessFlags := 2, slot := 2, constantValue := 0 }, { name := "hashIsZero", type := .boolean, accessFlags := 2, slot := 3, constantValue := 0 }, { name := "serialVersionUID", type := .long, accessFlags := 26, slot := 0, constantValue := 0 }, { name := "COMPACT_STRINGS", type := .boolean, accessFlags := 24, slot := 1, constantValue := 0 }, { name := "serialPersistentFields", type := (.array (.object "java/io/ObjectStreamField")), accessFlags := 26, slot := 2, constantValue := 0 }, { name := "REPL", type := .char, accessFlags := 26, slot := 3, constantValue := 0 }, { name := "CASE_INSENSITIVE_ORDER", type := (.object "java/util/Comparator"), accessFlags := 25, slot := 4, constantValue := 0 }, { name := "LATIN1", type := .byte, accessFlags := 24, slot := 5, constantValue := 0 }, { name := "UTF16", type := .byte, accessFlags := 24, slot := 6, constantValue := 0 }]
  methods := #[k10m0, k10m1, k10m2, k10m3, k10m4]
  instanceTypes := #[(.array .byte), .byte, .int, .boolean]
  staticTypes := #[.long, .boolean, (.array (.object "java/io/ObjectStreamField")), .char, (.object "java/util/Comparator"), .byte, .byte]
  resolved := Array.replicate 1451 none
  statics := some 1 }

def pool11 : Array CpInfo := pool [(6, .class_ 8), (1, u "java/lang/Object"), (0, u "<init>"), (0, u "()V"), (1, .class_ 14), (1, u "java/lang/StringUTF16"), (31, u "$assertionsDisabled"), (0, u "Z"), (13, u "HI_BYTE_SHIFT"), (0, u "I"), (2, u "LO_BYTE_SHIFT"), (49, .methodref 12 116), (0, .nameAndType 117 118), (0, u "compress"), (0, u "([CI[BII)I"), (3, u "([CII)[B"), (138, u "coderFromArrayLen"), (0, u "([BI)B"), (106, .class_ 371), (1, u "java/lang/StringUTF16$LinesSpliterator"), (58, u "MAX_LENGTH"), (196, .class_ 628), (0, u "java/lang/StringUTF16$CodePointsSpliterator"), (0, .class_ 630), (0, u "java/lang/StringUTF16$CharsSpliterator")] 4

def k11m0 : Method := { name := "<init>", desc := "()V", sig := { parameters := [], returnType := none }, accessFlags := 0, code := none }
def k11c1 : Code := { maxStack := 2, maxLocals := 2, code := jdk_52_method_15_code, exceptionTable := #[], attributes := #[] }
def k11m1 : Method := { name := "coderFromArrayLen", desc := "([BI)B", sig := { parameters := [(.array .byte), .int], returnType := some .byte }, accessFlags := 8, code := some k11c1 }
def k11c2 : Code := { maxStack := 5, maxLocals := 6, code := jdk_52_method_16_code, exceptionTable := #[], attributes := #[] }
def k11m2 : Method := { name := "compress", desc := "([CII)[B", sig := { parameters := [(.array .char), .int, .int], returnType := some (.array .byte) }, accessFlags := 9, code := some k11c2 }
def k11c3 : Code := { maxStack := 3, maxLocals := 7, code := jdk_52_method_21_code, exceptionTable := #[], attributes := #[] }
def k11m3 : Method := { name := "compress", desc := "([CI[BII)I", sig := { parameters := [(.array .char), .int, (.array .byte), .int, .int], returnType := some .int }, accessFlags := 9, code := some k11c3 }
/-- java/lang/StringUTF16 -/
def k11 : Class := { plain "java/lang/StringUTF16" (some 0) with
  accessFlags := 48
  interfaces := #[]
  cf := some (fileOf pool11 12 #[.nestMembers #[627, 629, 369]] #[{ accessFlags := 0, nameIndex := 9, descriptorIndex := 10, attributes := #[] }, { accessFlags := 8, nameIndex := 261, descriptorIndex := 262, attributes := #[] }, { accessFlags := 9, nameIndex := 117, descriptorIndex := 122, attributes := #[] }, { accessFlags := 9, nameIndex := 117, descriptorIndex := 118, attributes := #[] }] 48 6 #[] #[{ accessFlags := 26, nameIndex := 61, descriptorIndex := 62, attributes := #[] }, { accessFlags := 26, nameIndex := 65, descriptorIndex := 62, attributes := #[] }, { accessFlags := 24, nameIndex := 430, descriptorIndex := 62, attributes := #[] }, { accessFlags := 4120, nameIndex := 46, descriptorIndex := 47, attributes := #[] }])
  fields := #[{ name := "HI_BYTE_SHIFT", type := .int, accessFlags := 26, slot := 0, constantValue := 0 }, { name := "LO_BYTE_SHIFT", type := .int, accessFlags := 26, slot := 1, constantValue := 0 }, { name := "MAX_LENGTH", type := .int, accessFlags := 24, slot := 2, constantValue := 0 }, { name := "$assertionsDisabled", type := .boolean, accessFlags := 4120, slot := 3, constantValue := 0 }]
  methods := #[k11m0, k11m1, k11m2, k11m3]
  instanceTypes := #[]
  staticTypes := #[.int, .int, .int, .boolean]
  resolved := Array.replicate 635 none
  statics := none }

def pool12 : Array CpInfo := pool [(2, .class_ 4), (1, u "java/lang/Object"), (8, .class_ 15), (1, u "com/example/do_all/doall/memory/SharedWords"), (0, u "operations"), (0, u "Lcom/example/do_all/doall/memory/Tally;"), (11, u "length"), (0, u "I"), (5, .class_ 38), (1, u "com/example/do_all/doall/memory/SharedWords$Handle"), (38, u "OPERATIONS"), (8, u "held"), (0, u "(Ljava/lang/Object;)Ljava/lang/Object;")] 28

def k12c0 : Code := { maxStack := 3, maxLocals := 1, code := prog_23_method_10_code, exceptionTable := #[], attributes := #[] }
def k12m0 : Method := { name := "held", desc := "(Ljava/lang/Object;)Ljava/lang/Object;", sig := { parameters := [(.object "java/lang/Object")], returnType := some (.object "java/lang/Object") }, accessFlags := 12, code := some k12c0 }
/-- com/example/do_all/doall/memory/SharedWords -/
def k12 : Class := { plain "com/example/do_all/doall/memory/SharedWords" (some 0) with
  accessFlags := 1057
  interfaces := #[]
  cf := some (fileOf pool12 13 #[.nestMembers #[36]] #[{ accessFlags := 12, nameIndex := 86, descriptorIndex := 87, attributes := #[] }] 1057 2 #[] #[{ accessFlags := 26, nameIndex := 77, descriptorIndex := 30, attributes := #[] }, { accessFlags := 18, nameIndex := 29, descriptorIndex := 30, attributes := #[] }, { accessFlags := 18, nameIndex := 16, descriptorIndex := 17, attributes := #[] }])
  fields := #[{ name := "OPERATIONS", type := .int, accessFlags := 26, slot := 0, constantValue := 0 }, { name := "length", type := .int, accessFlags := 18, slot := 0, constantValue := 0 }, { name := "operations", type := (.object "com/example/do_all/doall/memory/Tally"), accessFlags := 18, slot := 1, constantValue := 0 }]
  methods := #[k12m0]
  instanceTypes := #[.int, (.object "com/example/do_all/doall/memory/Tally")]
  staticTypes := #[.int]
  resolved := Array.replicate 116 none
  statics := none }

def pool13 : Array CpInfo := pool [(4, .class_ 6), (1, u "java/lang/Object"), (0, u "<init>"), (0, u "()V"), (5, .class_ 16), (1, u "java/lang/StringLatin1"), (104, u "$assertionsDisabled"), (0, u "Z"), (98, .class_ 223), (1, u "java/lang/StringLatin1$LinesSpliterator"), (166, .class_ 391), (0, u "java/lang/StringLatin1$CharsSpliterator")] 3

def k13m0 : Method := { name := "<init>", desc := "()V", sig := { parameters := [], returnType := none }, accessFlags := 0, code := none }
/-- java/lang/StringLatin1 -/
def k13 : Class := { plain "java/lang/StringLatin1" (some 0) with
  accessFlags := 48
  interfaces := #[]
  cf := some (fileOf pool13 14 #[.nestMembers #[390, 221]] #[{ accessFlags := 0, nameIndex := 7, descriptorIndex := 8, attributes := #[] }] 48 4 #[] #[{ accessFlags := 4120, nameIndex := 121, descriptorIndex := 122, attributes := #[] }])
  fields := #[{ name := "$assertionsDisabled", type := .boolean, accessFlags := 4120, slot := 0, constantValue := 0 }]
  methods := #[k13m0]
  instanceTypes := #[]
  staticTypes := #[.boolean]
  resolved := Array.replicate 395 none
  statics := none }

def pool14 : Array CpInfo := pool [(2, .class_ 4), (1, u "java/lang/Object"), (0, u "<init>"), (0, u "()V"), (17, .class_ 26), (1, u "jdk/internal/util/Preconditions"), (28, .class_ 56), (0, u "jdk/internal/util/Preconditions$4"), (57, .class_ 115), (0, u "jdk/internal/util/Preconditions$1"), (7, u "SIOOBE_FORMATTER"), (0, u "Ljava/util/function/BiFunction;"), (0, .class_ 126), (0, u "jdk/internal/util/Preconditions$2"), (3, u "AIOOBE_FORMATTER"), (0, .class_ 132), (0, u "jdk/internal/util/Preconditions$3"), (3, u "IOOBE_FORMATTER")] 57

def k14m0 : Method := { name := "<init>", desc := "()V", sig := { parameters := [], returnType := none }, accessFlags := 1, code := none }
/-- jdk/internal/util/Preconditions -/
def k14 : Class := { plain "jdk/internal/util/Preconditions" (some 0) with
  accessFlags := 33
  interfaces := #[]
  cf := some (fileOf pool14 24 #[.nestMembers #[55, 131, 125, 114]] #[{ accessFlags := 1, nameIndex := 5, descriptorIndex := 6, attributes := #[] }] 33 2 #[] #[{ accessFlags := 25, nameIndex := 123, descriptorIndex := 124, attributes := #[] }, { accessFlags := 25, nameIndex := 130, descriptorIndex := 124, attributes := #[] }, { accessFlags := 25, nameIndex := 136, descriptorIndex := 124, attributes := #[] }])
  fields := #[{ name := "SIOOBE_FORMATTER", type := (.object "java/util/function/BiFunction"), accessFlags := 25, slot := 0, constantValue := 0 }, { name := "AIOOBE_FORMATTER", type := (.object "java/util/function/BiFunction"), accessFlags := 25, slot := 1, constantValue := 0 }, { name := "IOOBE_FORMATTER", type := (.object "java/util/function/BiFunction"), accessFlags := 25, slot := 2, constantValue := 0 }]
  methods := #[k14m0]
  instanceTypes := #[]
  staticTypes := #[(.object "java/util/function/BiFunction"), (.object "java/util/function/BiFunction"), (.object "java/util/function/BiFunction")]
  resolved := Array.replicate 194 none
  statics := some 2 }

def pool15 : Array CpInfo := pool [(9, u "<init>"), (6, .class_ 18), (1, u "java/lang/Object"), (0, u "()V"), (1, .class_ 23), (1, u "jdk/internal/util/ArraysSupport"), (0, u "LOG2_ARRAY_LONG_INDEX_SCALE"), (0, u "I"), (2, u "U"), (0, u "Ljdk/internal/misc/Unsafe;"), (8, u "BIG_ENDIAN"), (0, u "Z"), (8, u "LOG2_BYTE_BIT_SIZE"), (4, u "LOG2_ARRAY_INT_INDEX_SCALE"), (54, u "JLA"), (0, u "Ljdk/internal/access/JavaLangAccess;"), (11, u "LOG2_ARRAY_BOOLEAN_INDEX_SCALE"), (9, u "LOG2_ARRAY_BYTE_INDEX_SCALE"), (5, u "LOG2_ARRAY_CHAR_INDEX_SCALE"), (5, u "LOG2_ARRAY_SHORT_INDEX_SCALE"), (18, u "LOG2_ARRAY_FLOAT_INDEX_SCALE"), (24, u "LOG2_ARRAY_DOUBLE_INDEX_SCALE"), (89, u "T_BOOLEAN"), (2, u "T_CHAR"), (1, u "T_FLOAT"), (1, u "T_DOUBLE"), (1, u "T_BYTE"), (1, u "T_SHORT"), (1, u "T_INT"), (1, u "T_LONG"), (1, u "SOFT_MAX_ARRAY_LENGTH")] 83

def k15m0 : Method := { name := "<init>", desc := "()V", sig := { parameters := [], returnType := none }, accessFlags := 2, code := none }
/-- jdk/internal/util/ArraysSupport -/
def k15 : Class := { plain "jdk/internal/util/ArraysSupport" (some 0) with
  accessFlags := 33
  interfaces := #[]
  cf := some (fileOf pool15 21 #[] #[{ accessFlags := 2, nameIndex := 9, descriptorIndex := 19, attributes := #[] }] 33 16 #[] #[{ accessFlags := 24, nameIndex := 28, descriptorIndex := 29, attributes := #[] }, { accessFlags := 26, nameIndex := 38, descriptorIndex := 39, attributes := #[] }, { accessFlags := 25, nameIndex := 121, descriptorIndex := 25, attributes := #[] }, { accessFlags := 25, nameIndex := 131, descriptorIndex := 25, attributes := #[] }, { accessFlags := 25, nameIndex := 137, descriptorIndex := 25, attributes := #[] }, { accessFlags := 25, nameIndex := 143, descriptorIndex := 25, attributes := #[] }, { accessFlags := 25, nameIndex := 53, descriptorIndex := 25, attributes := #[] }, { accessFlags := 25, nameIndex := 24, descriptorIndex := 25, attributes := #[] }, { accessFlags := 25, nameIndex := 162, descriptorIndex := 25, attributes := #[] }, { accessFlags := 25, nameIndex := 187, descriptorIndex := 25, attributes := #[] }, { accessFlags := 26, nameIndex := 48, descriptorIndex := 25, attributes := #[] }, { accessFlags := 25, nameIndex := 277, descriptorIndex := 25, attributes := #[] }, { accessFlags := 25, nameIndex := 280, descriptorIndex := 25, attributes := #[] }, { accessFlags := 25, nameIndex := 282, descriptorIndex := 25, attributes := #[] }, { accessFlags := 25, nameIndex := 284, descriptorIndex := 25, attributes := #[] }, { accessFlags := 25, nameIndex := 286, descriptorIndex := 25, attributes := #[] }, { accessFlags := 25, nameIndex := 288, descriptorIndex := 25, attributes := #[] }, { accessFlags := 25, nameIndex := 290, descriptorIndex := 25, attributes := #[] }, { accessFlags := 25, nameIndex := 292, descriptorIndex := 25, attributes := #[] }, { accessFlags := 26, nameIndex := 108, descriptorIndex := 109, attributes := #[] }, { accessFlags := 25, nameIndex := 294, descriptorIndex := 25, attributes := #[] }])
  fields := #[{ name := "U", type := (.object "jdk/internal/misc/Unsafe"), accessFlags := 24, slot := 0, constantValue := 0 }, { name := "BIG_ENDIAN", type := .boolean, accessFlags := 26, slot := 1, constantValue := 0 }, { name := "LOG2_ARRAY_BOOLEAN_INDEX_SCALE", type := .int, accessFlags := 25, slot := 2, constantValue := 0 }, { name := "LOG2_ARRAY_BYTE_INDEX_SCALE", type := .int, accessFlags := 25, slot := 3, constantValue := 0 }, { name := "LOG2_ARRAY_CHAR_INDEX_SCALE", type := .int, accessFlags := 25, slot := 4, constantValue := 0 }, { name := "LOG2_ARRAY_SHORT_INDEX_SCALE", type := .int, accessFlags := 25, slot := 5, constantValue := 0 }, { name := "LOG2_ARRAY_INT_INDEX_SCALE", type := .int, accessFlags := 25, slot := 6, constantValue := 0 }, { name := "LOG2_ARRAY_LONG_INDEX_SCALE", type := .int, accessFlags := 25, slot := 7, constantValue := 0 }, { name := "LOG2_ARRAY_FLOAT_INDEX_SCALE", type := .int, accessFlags := 25, slot := 8, constantValue := 0 }, { name := "LOG2_ARRAY_DOUBLE_INDEX_SCALE", type := .int, accessFlags := 25, slot := 9, constantValue := 0 }, { name := "LOG2_BYTE_BIT_SIZE", type := .int, accessFlags := 26, slot := 10, constantValue := 0 }, { name := "T_BOOLEAN", type := .int, accessFlags := 25, slot := 11, constantValue := 0 }, { name := "T_CHAR", type := .int, accessFlags := 25, slot := 12, constantValue := 0 }, { name := "T_FLOAT", type := .int, accessFlags := 25, slot := 13, constantValue := 0 }, { name := "T_DOUBLE", type := .int, accessFlags := 25, slot := 14, constantValue := 0 }, { name := "T_BYTE", type := .int, accessFlags := 25, slot := 15, constantValue := 0 }, { name := "T_SHORT", type := .int, accessFlags := 25, slot := 16, constantValue := 0 }, { name := "T_INT", type := .int, accessFlags := 25, slot := 17, constantValue := 0 }, { name := "T_LONG", type := .int, accessFlags := 25, slot := 18, constantValue := 0 }, { name := "JLA", type := (.object "jdk/internal/access/JavaLangAccess"), accessFlags := 26, slot := 19, constantValue := 0 }, { name := "SOFT_MAX_ARRAY_LENGTH", type := .int, accessFlags := 25, slot := 20, constantValue := 0 }]
  methods := #[k15m0]
  instanceTypes := #[]
  staticTypes := #[(.object "jdk/internal/misc/Unsafe"), .boolean, .int, .int, .int, .int, .int, .int, .int, .int, .int, .int, .int, .int, .int, .int, .int, .int, .int, (.object "jdk/internal/access/JavaLangAccess"), .int]
  resolved := Array.replicate 378 none
  statics := none }

def pool16 : Array CpInfo := pool [(1, u "java/lang/Cloneable"), (0, .class_ 1), (0, u "java/lang/Object"), (0, .class_ 3)] 3

/-- java/lang/Cloneable -/
def k16 : Class := { plain "java/lang/Cloneable" (some 0) with
  accessFlags := 1537
  interfaces := #[]
  cf := some (fileOf pool16 2 #[] #[] 1537 4 #[] #[])
  fields := #[]
  methods := #[]
  instanceTypes := #[]
  staticTypes := #[]
  resolved := Array.replicate 8 none
  statics := none }

/-- the primitive byte -/
def k17 : Class := { plain "byte" none with kind := .primitive 'B', accessFlags := 0x411 }
/-- [B -/
def k18 : Class := { plain "[B" (some 0) with kind := .array 17 .byte, interfaces := #[16, 2], accessFlags := 1041 }

/-- the primitive char -/
def k19 : Class := { plain "char" none with kind := .primitive 'C', accessFlags := 0x411 }
/-- [C -/
def k20 : Class := { plain "[C" (some 0) with kind := .array 19 .char, interfaces := #[16, 2], accessFlags := 1041 }

/-- the primitive int -/
def k21 : Class := { plain "int" none with kind := .primitive 'I', accessFlags := 0x411 }
/-- [I -/
def k22 : Class := { plain "[I" (some 0) with kind := .array 21 .int, interfaces := #[16, 2], accessFlags := 1041 }

/-- [Ljava/lang/Long; -/
def k23 : Class := { plain "[Ljava/lang/Long;" (some 0) with kind := .array 7 (.object "java/lang/Long"), interfaces := #[16, 2], accessFlags := 1041 }

def heap : Heap := #[{ cls := 8, slots := #[.ref 3, .null, .int 0], vm := .statics 8 },
  { cls := 10, slots := #[.long 0, .int 1, .null, .int 0, .null, .int 0, .int 0], vm := .statics 10 },
  { cls := 14, slots := #[.null, .null, .null], vm := .statics 14 },
  { cls := 23, slots := #[.ref 4, .ref 5, .ref 6, .ref 7, .ref 8, .ref 9, .ref 10, .ref 11, .ref 12, .ref 13, .ref 14, .ref 15, .ref 16, .ref 17, .ref 18, .ref 19, .ref 20, .ref 21, .ref 22, .ref 23, .ref 24, .ref 25, .ref 26, .ref 27, .ref 28, .ref 29, .ref 30, .ref 31, .ref 32, .ref 33, .ref 34, .ref 35, .ref 36, .ref 37, .ref 38, .ref 39, .ref 40, .ref 41, .ref 42, .ref 43, .ref 44, .ref 45, .ref 46, .ref 47, .ref 48, .ref 49, .ref 50, .ref 51, .ref 52, .ref 53, .ref 54, .ref 55, .ref 56, .ref 57, .ref 58, .ref 59, .ref 60, .ref 61, .ref 62, .ref 63, .ref 64, .ref 65, .ref 66, .ref 67, .ref 68, .ref 69, .ref 70, .ref 71, .ref 72, .ref 73, .ref 74, .ref 75, .ref 76, .ref 77, .ref 78, .ref 79, .ref 80, .ref 81, .ref 82, .ref 83, .ref 84, .ref 85, .ref 86, .ref 87, .ref 88, .ref 89, .ref 90, .ref 91, .ref 92, .ref 93, .ref 94, .ref 95, .ref 96, .ref 97, .ref 98, .ref 99, .ref 100, .ref 101, .ref 102, .ref 103, .ref 104, .ref 105, .ref 106, .ref 107, .ref 108, .ref 109, .ref 110, .ref 111, .ref 112, .ref 113, .ref 114, .ref 115, .ref 116, .ref 117, .ref 118, .ref 119, .ref 120, .ref 121, .ref 122, .ref 123, .ref 124, .ref 125, .ref 126, .ref 127, .ref 128, .ref 129, .ref 130, .ref 131, .ref 132, .ref 133, .ref 134, .ref 135, .ref 136, .ref 137, .ref 138, .ref 139, .ref 140, .ref 141, .ref 142, .ref 143, .ref 144, .ref 145, .ref 146, .ref 147, .ref 148, .ref 149, .ref 150, .ref 151, .ref 152, .ref 153, .ref 154, .ref 155, .ref 156, .ref 157, .ref 158, .ref 159, .ref 160, .ref 161, .ref 162, .ref 163, .ref 164, .ref 165, .ref 166, .ref 167, .ref 168, .ref 169, .ref 170, .ref 171, .ref 172, .ref 173, .ref 174, .ref 175, .ref 176, .ref 177, .ref 178, .ref 179, .ref 180, .ref 181, .ref 182, .ref 183, .ref 184, .ref 185, .ref 186, .ref 187, .ref 188, .ref 189, .ref 190, .ref 191, .ref 192, .ref 193, .ref 194, .ref 195, .ref 196, .ref 197, .ref 198, .ref 199, .ref 200, .ref 201, .ref 202, .ref 203, .ref 204, .ref 205, .ref 206, .ref 207, .ref 208, .ref 209, .ref 210, .ref 211, .ref 212, .ref 213, .ref 214, .ref 215, .ref 216, .ref 217, .ref 218, .ref 219, .ref 220, .ref 221, .ref 222, .ref 223, .ref 224, .ref 225, .ref 226, .ref 227, .ref 228, .ref 229, .ref 230, .ref 231, .ref 232, .ref 233, .ref 234, .ref 235, .ref 236, .ref 237, .ref 238, .ref 239, .ref 240, .ref 241, .ref 242, .ref 243, .ref 244, .ref 245, .ref 246, .ref 247, .ref 248, .ref 249, .ref 250, .ref 251, .ref 252, .ref 253, .ref 254, .ref 255, .ref 256, .ref 257, .ref 258, .ref 259], vm := .none },
  { cls := 7, slots := #[.long (-128)], vm := .none },
  { cls := 7, slots := #[.long (-127)], vm := .none },
  { cls := 7, slots := #[.long (-126)], vm := .none },
  { cls := 7, slots := #[.long (-125)], vm := .none },
  { cls := 7, slots := #[.long (-124)], vm := .none },
  { cls := 7, slots := #[.long (-123)], vm := .none },
  { cls := 7, slots := #[.long (-122)], vm := .none },
  { cls := 7, slots := #[.long (-121)], vm := .none },
  { cls := 7, slots := #[.long (-120)], vm := .none },
  { cls := 7, slots := #[.long (-119)], vm := .none },
  { cls := 7, slots := #[.long (-118)], vm := .none },
  { cls := 7, slots := #[.long (-117)], vm := .none },
  { cls := 7, slots := #[.long (-116)], vm := .none },
  { cls := 7, slots := #[.long (-115)], vm := .none },
  { cls := 7, slots := #[.long (-114)], vm := .none },
  { cls := 7, slots := #[.long (-113)], vm := .none },
  { cls := 7, slots := #[.long (-112)], vm := .none },
  { cls := 7, slots := #[.long (-111)], vm := .none },
  { cls := 7, slots := #[.long (-110)], vm := .none },
  { cls := 7, slots := #[.long (-109)], vm := .none },
  { cls := 7, slots := #[.long (-108)], vm := .none },
  { cls := 7, slots := #[.long (-107)], vm := .none },
  { cls := 7, slots := #[.long (-106)], vm := .none },
  { cls := 7, slots := #[.long (-105)], vm := .none },
  { cls := 7, slots := #[.long (-104)], vm := .none },
  { cls := 7, slots := #[.long (-103)], vm := .none },
  { cls := 7, slots := #[.long (-102)], vm := .none },
  { cls := 7, slots := #[.long (-101)], vm := .none },
  { cls := 7, slots := #[.long (-100)], vm := .none },
  { cls := 7, slots := #[.long (-99)], vm := .none },
  { cls := 7, slots := #[.long (-98)], vm := .none },
  { cls := 7, slots := #[.long (-97)], vm := .none },
  { cls := 7, slots := #[.long (-96)], vm := .none },
  { cls := 7, slots := #[.long (-95)], vm := .none },
  { cls := 7, slots := #[.long (-94)], vm := .none },
  { cls := 7, slots := #[.long (-93)], vm := .none },
  { cls := 7, slots := #[.long (-92)], vm := .none },
  { cls := 7, slots := #[.long (-91)], vm := .none },
  { cls := 7, slots := #[.long (-90)], vm := .none },
  { cls := 7, slots := #[.long (-89)], vm := .none },
  { cls := 7, slots := #[.long (-88)], vm := .none },
  { cls := 7, slots := #[.long (-87)], vm := .none },
  { cls := 7, slots := #[.long (-86)], vm := .none },
  { cls := 7, slots := #[.long (-85)], vm := .none },
  { cls := 7, slots := #[.long (-84)], vm := .none },
  { cls := 7, slots := #[.long (-83)], vm := .none },
  { cls := 7, slots := #[.long (-82)], vm := .none },
  { cls := 7, slots := #[.long (-81)], vm := .none },
  { cls := 7, slots := #[.long (-80)], vm := .none },
  { cls := 7, slots := #[.long (-79)], vm := .none },
  { cls := 7, slots := #[.long (-78)], vm := .none },
  { cls := 7, slots := #[.long (-77)], vm := .none },
  { cls := 7, slots := #[.long (-76)], vm := .none },
  { cls := 7, slots := #[.long (-75)], vm := .none },
  { cls := 7, slots := #[.long (-74)], vm := .none },
  { cls := 7, slots := #[.long (-73)], vm := .none },
  { cls := 7, slots := #[.long (-72)], vm := .none },
  { cls := 7, slots := #[.long (-71)], vm := .none },
  { cls := 7, slots := #[.long (-70)], vm := .none },
  { cls := 7, slots := #[.long (-69)], vm := .none },
  { cls := 7, slots := #[.long (-68)], vm := .none },
  { cls := 7, slots := #[.long (-67)], vm := .none },
  { cls := 7, slots := #[.long (-66)], vm := .none },
  { cls := 7, slots := #[.long (-65)], vm := .none },
  { cls := 7, slots := #[.long (-64)], vm := .none },
  { cls := 7, slots := #[.long (-63)], vm := .none },
  { cls := 7, slots := #[.long (-62)], vm := .none },
  { cls := 7, slots := #[.long (-61)], vm := .none },
  { cls := 7, slots := #[.long (-60)], vm := .none },
  { cls := 7, slots := #[.long (-59)], vm := .none },
  { cls := 7, slots := #[.long (-58)], vm := .none },
  { cls := 7, slots := #[.long (-57)], vm := .none },
  { cls := 7, slots := #[.long (-56)], vm := .none },
  { cls := 7, slots := #[.long (-55)], vm := .none },
  { cls := 7, slots := #[.long (-54)], vm := .none },
  { cls := 7, slots := #[.long (-53)], vm := .none },
  { cls := 7, slots := #[.long (-52)], vm := .none },
  { cls := 7, slots := #[.long (-51)], vm := .none },
  { cls := 7, slots := #[.long (-50)], vm := .none },
  { cls := 7, slots := #[.long (-49)], vm := .none },
  { cls := 7, slots := #[.long (-48)], vm := .none },
  { cls := 7, slots := #[.long (-47)], vm := .none },
  { cls := 7, slots := #[.long (-46)], vm := .none },
  { cls := 7, slots := #[.long (-45)], vm := .none },
  { cls := 7, slots := #[.long (-44)], vm := .none },
  { cls := 7, slots := #[.long (-43)], vm := .none },
  { cls := 7, slots := #[.long (-42)], vm := .none },
  { cls := 7, slots := #[.long (-41)], vm := .none },
  { cls := 7, slots := #[.long (-40)], vm := .none },
  { cls := 7, slots := #[.long (-39)], vm := .none },
  { cls := 7, slots := #[.long (-38)], vm := .none },
  { cls := 7, slots := #[.long (-37)], vm := .none },
  { cls := 7, slots := #[.long (-36)], vm := .none },
  { cls := 7, slots := #[.long (-35)], vm := .none },
  { cls := 7, slots := #[.long (-34)], vm := .none },
  { cls := 7, slots := #[.long (-33)], vm := .none },
  { cls := 7, slots := #[.long (-32)], vm := .none },
  { cls := 7, slots := #[.long (-31)], vm := .none },
  { cls := 7, slots := #[.long (-30)], vm := .none },
  { cls := 7, slots := #[.long (-29)], vm := .none },
  { cls := 7, slots := #[.long (-28)], vm := .none },
  { cls := 7, slots := #[.long (-27)], vm := .none },
  { cls := 7, slots := #[.long (-26)], vm := .none },
  { cls := 7, slots := #[.long (-25)], vm := .none },
  { cls := 7, slots := #[.long (-24)], vm := .none },
  { cls := 7, slots := #[.long (-23)], vm := .none },
  { cls := 7, slots := #[.long (-22)], vm := .none },
  { cls := 7, slots := #[.long (-21)], vm := .none },
  { cls := 7, slots := #[.long (-20)], vm := .none },
  { cls := 7, slots := #[.long (-19)], vm := .none },
  { cls := 7, slots := #[.long (-18)], vm := .none },
  { cls := 7, slots := #[.long (-17)], vm := .none },
  { cls := 7, slots := #[.long (-16)], vm := .none },
  { cls := 7, slots := #[.long (-15)], vm := .none },
  { cls := 7, slots := #[.long (-14)], vm := .none },
  { cls := 7, slots := #[.long (-13)], vm := .none },
  { cls := 7, slots := #[.long (-12)], vm := .none },
  { cls := 7, slots := #[.long (-11)], vm := .none },
  { cls := 7, slots := #[.long (-10)], vm := .none },
  { cls := 7, slots := #[.long (-9)], vm := .none },
  { cls := 7, slots := #[.long (-8)], vm := .none },
  { cls := 7, slots := #[.long (-7)], vm := .none },
  { cls := 7, slots := #[.long (-6)], vm := .none },
  { cls := 7, slots := #[.long (-5)], vm := .none },
  { cls := 7, slots := #[.long (-4)], vm := .none },
  { cls := 7, slots := #[.long (-3)], vm := .none },
  { cls := 7, slots := #[.long (-2)], vm := .none },
  { cls := 7, slots := #[.long (-1)], vm := .none },
  { cls := 7, slots := #[.long (0)], vm := .none },
  { cls := 7, slots := #[.long (1)], vm := .none },
  { cls := 7, slots := #[.long (2)], vm := .none },
  { cls := 7, slots := #[.long (3)], vm := .none },
  { cls := 7, slots := #[.long (4)], vm := .none },
  { cls := 7, slots := #[.long (5)], vm := .none },
  { cls := 7, slots := #[.long (6)], vm := .none },
  { cls := 7, slots := #[.long (7)], vm := .none },
  { cls := 7, slots := #[.long (8)], vm := .none },
  { cls := 7, slots := #[.long (9)], vm := .none },
  { cls := 7, slots := #[.long (10)], vm := .none },
  { cls := 7, slots := #[.long (11)], vm := .none },
  { cls := 7, slots := #[.long (12)], vm := .none },
  { cls := 7, slots := #[.long (13)], vm := .none },
  { cls := 7, slots := #[.long (14)], vm := .none },
  { cls := 7, slots := #[.long (15)], vm := .none },
  { cls := 7, slots := #[.long (16)], vm := .none },
  { cls := 7, slots := #[.long (17)], vm := .none },
  { cls := 7, slots := #[.long (18)], vm := .none },
  { cls := 7, slots := #[.long (19)], vm := .none },
  { cls := 7, slots := #[.long (20)], vm := .none },
  { cls := 7, slots := #[.long (21)], vm := .none },
  { cls := 7, slots := #[.long (22)], vm := .none },
  { cls := 7, slots := #[.long (23)], vm := .none },
  { cls := 7, slots := #[.long (24)], vm := .none },
  { cls := 7, slots := #[.long (25)], vm := .none },
  { cls := 7, slots := #[.long (26)], vm := .none },
  { cls := 7, slots := #[.long (27)], vm := .none },
  { cls := 7, slots := #[.long (28)], vm := .none },
  { cls := 7, slots := #[.long (29)], vm := .none },
  { cls := 7, slots := #[.long (30)], vm := .none },
  { cls := 7, slots := #[.long (31)], vm := .none },
  { cls := 7, slots := #[.long (32)], vm := .none },
  { cls := 7, slots := #[.long (33)], vm := .none },
  { cls := 7, slots := #[.long (34)], vm := .none },
  { cls := 7, slots := #[.long (35)], vm := .none },
  { cls := 7, slots := #[.long (36)], vm := .none },
  { cls := 7, slots := #[.long (37)], vm := .none },
  { cls := 7, slots := #[.long (38)], vm := .none },
  { cls := 7, slots := #[.long (39)], vm := .none },
  { cls := 7, slots := #[.long (40)], vm := .none },
  { cls := 7, slots := #[.long (41)], vm := .none },
  { cls := 7, slots := #[.long (42)], vm := .none },
  { cls := 7, slots := #[.long (43)], vm := .none },
  { cls := 7, slots := #[.long (44)], vm := .none },
  { cls := 7, slots := #[.long (45)], vm := .none },
  { cls := 7, slots := #[.long (46)], vm := .none },
  { cls := 7, slots := #[.long (47)], vm := .none },
  { cls := 7, slots := #[.long (48)], vm := .none },
  { cls := 7, slots := #[.long (49)], vm := .none },
  { cls := 7, slots := #[.long (50)], vm := .none },
  { cls := 7, slots := #[.long (51)], vm := .none },
  { cls := 7, slots := #[.long (52)], vm := .none },
  { cls := 7, slots := #[.long (53)], vm := .none },
  { cls := 7, slots := #[.long (54)], vm := .none },
  { cls := 7, slots := #[.long (55)], vm := .none },
  { cls := 7, slots := #[.long (56)], vm := .none },
  { cls := 7, slots := #[.long (57)], vm := .none },
  { cls := 7, slots := #[.long (58)], vm := .none },
  { cls := 7, slots := #[.long (59)], vm := .none },
  { cls := 7, slots := #[.long (60)], vm := .none },
  { cls := 7, slots := #[.long (61)], vm := .none },
  { cls := 7, slots := #[.long (62)], vm := .none },
  { cls := 7, slots := #[.long (63)], vm := .none },
  { cls := 7, slots := #[.long (64)], vm := .none },
  { cls := 7, slots := #[.long (65)], vm := .none },
  { cls := 7, slots := #[.long (66)], vm := .none },
  { cls := 7, slots := #[.long (67)], vm := .none },
  { cls := 7, slots := #[.long (68)], vm := .none },
  { cls := 7, slots := #[.long (69)], vm := .none },
  { cls := 7, slots := #[.long (70)], vm := .none },
  { cls := 7, slots := #[.long (71)], vm := .none },
  { cls := 7, slots := #[.long (72)], vm := .none },
  { cls := 7, slots := #[.long (73)], vm := .none },
  { cls := 7, slots := #[.long (74)], vm := .none },
  { cls := 7, slots := #[.long (75)], vm := .none },
  { cls := 7, slots := #[.long (76)], vm := .none },
  { cls := 7, slots := #[.long (77)], vm := .none },
  { cls := 7, slots := #[.long (78)], vm := .none },
  { cls := 7, slots := #[.long (79)], vm := .none },
  { cls := 7, slots := #[.long (80)], vm := .none },
  { cls := 7, slots := #[.long (81)], vm := .none },
  { cls := 7, slots := #[.long (82)], vm := .none },
  { cls := 7, slots := #[.long (83)], vm := .none },
  { cls := 7, slots := #[.long (84)], vm := .none },
  { cls := 7, slots := #[.long (85)], vm := .none },
  { cls := 7, slots := #[.long (86)], vm := .none },
  { cls := 7, slots := #[.long (87)], vm := .none },
  { cls := 7, slots := #[.long (88)], vm := .none },
  { cls := 7, slots := #[.long (89)], vm := .none },
  { cls := 7, slots := #[.long (90)], vm := .none },
  { cls := 7, slots := #[.long (91)], vm := .none },
  { cls := 7, slots := #[.long (92)], vm := .none },
  { cls := 7, slots := #[.long (93)], vm := .none },
  { cls := 7, slots := #[.long (94)], vm := .none },
  { cls := 7, slots := #[.long (95)], vm := .none },
  { cls := 7, slots := #[.long (96)], vm := .none },
  { cls := 7, slots := #[.long (97)], vm := .none },
  { cls := 7, slots := #[.long (98)], vm := .none },
  { cls := 7, slots := #[.long (99)], vm := .none },
  { cls := 7, slots := #[.long (100)], vm := .none },
  { cls := 7, slots := #[.long (101)], vm := .none },
  { cls := 7, slots := #[.long (102)], vm := .none },
  { cls := 7, slots := #[.long (103)], vm := .none },
  { cls := 7, slots := #[.long (104)], vm := .none },
  { cls := 7, slots := #[.long (105)], vm := .none },
  { cls := 7, slots := #[.long (106)], vm := .none },
  { cls := 7, slots := #[.long (107)], vm := .none },
  { cls := 7, slots := #[.long (108)], vm := .none },
  { cls := 7, slots := #[.long (109)], vm := .none },
  { cls := 7, slots := #[.long (110)], vm := .none },
  { cls := 7, slots := #[.long (111)], vm := .none },
  { cls := 7, slots := #[.long (112)], vm := .none },
  { cls := 7, slots := #[.long (113)], vm := .none },
  { cls := 7, slots := #[.long (114)], vm := .none },
  { cls := 7, slots := #[.long (115)], vm := .none },
  { cls := 7, slots := #[.long (116)], vm := .none },
  { cls := 7, slots := #[.long (117)], vm := .none },
  { cls := 7, slots := #[.long (118)], vm := .none },
  { cls := 7, slots := #[.long (119)], vm := .none },
  { cls := 7, slots := #[.long (120)], vm := .none },
  { cls := 7, slots := #[.long (121)], vm := .none },
  { cls := 7, slots := #[.long (122)], vm := .none },
  { cls := 7, slots := #[.long (123)], vm := .none },
  { cls := 7, slots := #[.long (124)], vm := .none },
  { cls := 7, slots := #[.long (125)], vm := .none },
  { cls := 7, slots := #[.long (126)], vm := .none },
  { cls := 7, slots := #[.long (127)], vm := .none }]
def classes : Array Class := #[k0, k1, k2, k3, k4, k5, k6, k7, k8, k9, k10, k11, k12, k13, k14, k15, k16, k17, k18, k19, k20, k21, k22, k23]
def interned : List (Array UInt16 × Addr) := []
def slotsUsed : Nat := 525
def theMethod : MethodId := ⟨1, 1⟩
def args0 : Array Value := #[.long 5, .int 7, .int 1]
def aboutOver (below : List Frame) : State where
  vm := { classes := classes, interned := interned.toArray }
  heap := heap
  slotsUsed := slotsUsed
  threads := #[{ frames := .invoking theMethod args0 :: below }]
def below0 : List Frame := [.native { method := ⟨0, 0⟩, args := #[] }]
def about1 : State := aboutOver below0
def p0 : Program := .bare "" "" ""
def e0 : Env := launch0.env 0 0 0
theorem w_frames : about1.frames = Frame.invoking theMethod args0 :: below0 := rfl
set_option maxRecDepth 65536 in
theorem w_args : argsFit about1.vm theMethod args0 = true := by decide +kernel
set_option maxRecDepth 65536 in
theorem w_heap : heapFits about1 = true := by decide +kernel
set_option maxRecDepth 65536 in
theorem w_runnable : about1.curStatus? = some .runnable := by decide +kernel
set_option maxRecDepth 65536 in
theorem w_alone : about1.alone = true := by decide +kernel
set_option maxRecDepth 65536 in
theorem w_named : about1.methodNamed? x = some theMethod := by decide +kernel
set_option maxRecDepth 65536 in
theorem w_hears : about1.hears theMethod below0 = true := by decide +kernel
set_option maxRecDepth 65536 in
theorem w_ripe : about1.ripe theMethod args0 below0 = true := by decide +kernel
theorem w_running : about1.status = .running := rfl
set_option maxRecDepth 65536 in
theorem w_room : about1.hasRoom e0.platform room_1 = true :=
  launch0.hasRoom_least _ room_1 (by decide +kernel) (by decide +kernel) (by decide +kernel) (by decide +kernel) (by decide +kernel) (by decide +kernel)
theorem allAtoms_all (ts : List Jvm.Cond) (a : Array Jvm.Value) (st : Jvm.State) : (allAtoms ts).before a st = ts.all (fun c => c.before a st) := by
  induction ts with
  | nil => rfl
  | cons c t ih =>
    show (Jvm.Cond.and c (allAtoms t)).before a st = _
    rw [Jvm.Cond.before_and, ih, List.all_cons]
def words1 : List Jvm.Cond := Jvm.Cond.code x code maxLocals ret :: tables_1
/-- a 'code' word, met by the world's own term for the bytes: nothing is compared byte by byte -/
theorem code_word {y : MethodName} {bytes : ByteArray} {mx : Nat} {rt : Option FieldType} {a : Array Value} {s : State} {m : MethodId} {meth : Method} {c : Code} (h1 : s.methodNamed? y = some m) (h2 : s.vm.method? m = some meth) (h3 : meth.code = some c) (h4 : c.code = bytes)
    (h5 : (c.maxLocals == mx && c.exceptionTable.isEmpty && decide (c.maxStack ≤ mostOperands) && decide (meth.sig.returnType = rt) && !meth.locks && decide (parseMethodDescriptor y.desc = some meth.sig)) = true) : (Jvm.Cond.code y bytes mx rt).before a s = true := by
  simp only [Bool.and_eq_true, beq_iff_eq, Bool.not_eq_true', decide_eq_true_eq] at h5
  obtain ⟨⟨⟨⟨⟨g1, g2⟩, g3⟩, g4⟩, g5⟩, g6⟩ := h5
  simp [Cond.before, Cond.holds, Cond.value, h1, h2, h3, h4, g1, g2, g3, g4, g5, g6]
def isCode : Jvm.Cond → Bool
  | .code _ _ _ _ => true
  | _ => false
theorem all_split {L : List Jvm.Cond} {P : Jvm.Cond → Bool} (h1 : L.all (fun c => isCode c || P c) = true) (h2 : ∀ c ∈ L.filter isCode, P c = true) : L.all P = true := by
  refine List.all_eq_true.mpr fun c hc => ?_
  have h := List.all_eq_true.mp h1 c hc
  rcases Bool.eq_false_or_eq_true (isCode c) with hi | hi
  · exact h2 c (List.mem_filter.mpr ⟨hc, hi⟩)
  · simpa [hi] using h
set_option maxRecDepth 65536 in
theorem w_c0 : (Jvm.Cond.code x code maxLocals ret).before args0 about1 = true := code_word (m := ⟨1, 1⟩) (meth := k1m1) (c := k1c1) (by decide +kernel) rfl rfl rfl (by decide +kernel)
set_option maxRecDepth 65536 in
theorem w_c1 : (Jvm.Cond.code ({ cls := "java/lang/Long", name := "valueOf", desc := "(J)Ljava/lang/Long;" } : Jvm.MethodName) jdk_35_method_24_code (3 : Nat) (Option.some (Jvm.ClassFile.FieldType.object "java/lang/Long"))).before args0 about1 = true := code_word (m := ⟨7, 0⟩) (meth := k7m0) (c := k7c0) (by decide +kernel) rfl rfl rfl (by decide +kernel)
set_option maxRecDepth 65536 in
theorem w_c2 : (Jvm.Cond.code ({ cls := "java/lang/String", name := "<init>", desc := "([C)V" } : Jvm.MethodName) jdk_42_method_3_code (2 : Nat) (Option.none : Option Jvm.ClassFile.FieldType)).before args0 about1 = true := code_word (m := ⟨10, 1⟩) (meth := k10m1) (c := k10c1) (by decide +kernel) rfl rfl rfl (by decide +kernel)
set_option maxRecDepth 65536 in
theorem w_c3 : (Jvm.Cond.code ({ cls := "java/lang/String", name := "<init>", desc := "([CIILjava/lang/Void;)V" } : Jvm.MethodName) jdk_42_method_149_code (6 : Nat) (Option.none : Option Jvm.ClassFile.FieldType)).before args0 about1 = true := code_word (m := ⟨10, 3⟩) (meth := k10m3) (c := k10c3) (by decide +kernel) rfl rfl rfl (by decide +kernel)
set_option maxRecDepth 65536 in
theorem w_c4 : (Jvm.Cond.code ({ cls := "java/lang/Object", name := "<init>", desc := "()V" } : Jvm.MethodName) object_method_1_code (1 : Nat) (Option.none : Option Jvm.ClassFile.FieldType)).before args0 about1 = true := code_word (m := ⟨0, 0⟩) (meth := k0m0) (c := k0c0) (by decide +kernel) rfl rfl rfl (by decide +kernel)
set_option maxRecDepth 65536 in
theorem w_c5 : (Jvm.Cond.code ({ cls := "java/lang/StringUTF16", name := "compress", desc := "([CII)[B" } : Jvm.MethodName) jdk_52_method_16_code (6 : Nat) (Option.some (Jvm.ClassFile.FieldType.array Jvm.ClassFile.FieldType.byte))).before args0 about1 = true := code_word (m := ⟨11, 2⟩) (meth := k11m2) (c := k11c2) (by decide +kernel) rfl rfl rfl (by decide +kernel)
set_option maxRecDepth 65536 in
theorem w_c6 : (Jvm.Cond.code ({ cls := "java/lang/StringUTF16", name := "compress", desc := "([CI[BII)I" } : Jvm.MethodName) jdk_52_method_21_code (7 : Nat) (Option.some Jvm.ClassFile.FieldType.int)).before args0 about1 = true := code_word (m := ⟨11, 3⟩) (meth := k11m3) (c := k11c3) (by decide +kernel) rfl rfl rfl (by decide +kernel)
set_option maxRecDepth 65536 in
theorem w_c7 : (Jvm.Cond.code ({ cls := "java/lang/StringUTF16", name := "coderFromArrayLen", desc := "([BI)B" } : Jvm.MethodName) jdk_52_method_15_code (2 : Nat) (Option.some Jvm.ClassFile.FieldType.byte)).before args0 about1 = true := code_word (m := ⟨11, 1⟩) (meth := k11m1) (c := k11c1) (by decide +kernel) rfl rfl rfl (by decide +kernel)
set_option maxRecDepth 65536 in
theorem w_c8 : (Jvm.Cond.code ({ cls := "com/example/do_all/doall/memory/SharedWords", name := "held", desc := "(Ljava/lang/Object;)Ljava/lang/Object;" } : Jvm.MethodName) prog_23_method_10_code (1 : Nat) (Option.some (Jvm.ClassFile.FieldType.object "java/lang/Object"))).before args0 about1 = true := code_word (m := ⟨12, 0⟩) (meth := k12m0) (c := k12c0) (by decide +kernel) rfl rfl rfl (by decide +kernel)
set_option maxRecDepth 65536 in
theorem w_c9 : (Jvm.Cond.code ({ cls := "java/lang/Long", name := "longValue", desc := "()J" } : Jvm.MethodName) jdk_35_method_31_code (1 : Nat) (Option.some Jvm.ClassFile.FieldType.long)).before args0 about1 = true := code_word (m := ⟨7, 2⟩) (meth := k7m2) (c := k7c2) (by decide +kernel) rfl rfl rfl (by decide +kernel)
set_option maxRecDepth 65536 in
theorem w_c10 : (Jvm.Cond.code ({ cls := "java/lang/String", name := "length", desc := "()I" } : Jvm.MethodName) jdk_42_method_54_code (1 : Nat) (Option.some Jvm.ClassFile.FieldType.int)).before args0 about1 = true := code_word (m := ⟨10, 2⟩) (meth := k10m2) (c := k10c2) (by decide +kernel) rfl rfl rfl (by decide +kernel)
set_option maxRecDepth 65536 in
theorem w_c11 : (Jvm.Cond.code ({ cls := "java/lang/String", name := "coder", desc := "()B" } : Jvm.MethodName) jdk_42_method_152_code (1 : Nat) (Option.some Jvm.ClassFile.FieldType.byte)).before args0 about1 = true := code_word (m := ⟨10, 4⟩) (meth := k10m4) (c := k10c4) (by decide +kernel) rfl rfl rfl (by decide +kernel)
set_option maxRecDepth 65536 in
theorem w_c12 : (Jvm.Cond.code ({ cls := "java/lang/Long", name := "<init>", desc := "(J)V" } : Jvm.MethodName) jdk_35_method_26_code (3 : Nat) (Option.none : Option Jvm.ClassFile.FieldType)).before args0 about1 = true := code_word (m := ⟨7, 1⟩) (meth := k7m1) (c := k7c1) (by decide +kernel) rfl rfl rfl (by decide +kernel)
set_option maxRecDepth 65536 in
theorem w_c13 : (Jvm.Cond.code ({ cls := "java/lang/Number", name := "<init>", desc := "()V" } : Jvm.MethodName) jdk_18_method_1_code (1 : Nat) (Option.none : Option Jvm.ClassFile.FieldType)).before args0 about1 = true := code_word (m := ⟨3, 0⟩) (meth := k3m0) (c := k3c0) (by decide +kernel) rfl rfl rfl (by decide +kernel)
def codes1 : List Jvm.Cond := [Jvm.Cond.code x code maxLocals ret, Jvm.Cond.code ({ cls := "java/lang/Long", name := "valueOf", desc := "(J)Ljava/lang/Long;" } : Jvm.MethodName) jdk_35_method_24_code (3 : Nat) (Option.some (Jvm.ClassFile.FieldType.object "java/lang/Long")), Jvm.Cond.code ({ cls := "java/lang/String", name := "<init>", desc := "([C)V" } : Jvm.MethodName) jdk_42_method_3_code (2 : Nat) (Option.none : Option Jvm.ClassFile.FieldType), Jvm.Cond.code ({ cls := "java/lang/String", name := "<init>", desc := "([CIILjava/lang/Void;)V" } : Jvm.MethodName) jdk_42_method_149_code (6 : Nat) (Option.none : Option Jvm.ClassFile.FieldType), Jvm.Cond.code ({ cls := "java/lang/Object", name := "<init>", desc := "()V" } : Jvm.MethodName) object_method_1_code (1 : Nat) (Option.none : Option Jvm.ClassFile.FieldType), Jvm.Cond.code ({ cls := "java/lang/StringUTF16", name := "compress", desc := "([CII)[B" } : Jvm.MethodName) jdk_52_method_16_code (6 : Nat) (Option.some (Jvm.ClassFile.FieldType.array Jvm.ClassFile.FieldType.byte)), Jvm.Cond.code ({ cls := "java/lang/StringUTF16", name := "compress", desc := "([CI[BII)I" } : Jvm.MethodName) jdk_52_method_21_code (7 : Nat) (Option.some Jvm.ClassFile.FieldType.int), Jvm.Cond.code ({ cls := "java/lang/StringUTF16", name := "coderFromArrayLen", desc := "([BI)B" } : Jvm.MethodName) jdk_52_method_15_code (2 : Nat) (Option.some Jvm.ClassFile.FieldType.byte), Jvm.Cond.code ({ cls := "com/example/do_all/doall/memory/SharedWords", name := "held", desc := "(Ljava/lang/Object;)Ljava/lang/Object;" } : Jvm.MethodName) prog_23_method_10_code (1 : Nat) (Option.some (Jvm.ClassFile.FieldType.object "java/lang/Object")), Jvm.Cond.code ({ cls := "java/lang/Long", name := "longValue", desc := "()J" } : Jvm.MethodName) jdk_35_method_31_code (1 : Nat) (Option.some Jvm.ClassFile.FieldType.long), Jvm.Cond.code ({ cls := "java/lang/String", name := "length", desc := "()I" } : Jvm.MethodName) jdk_42_method_54_code (1 : Nat) (Option.some Jvm.ClassFile.FieldType.int), Jvm.Cond.code ({ cls := "java/lang/String", name := "coder", desc := "()B" } : Jvm.MethodName) jdk_42_method_152_code (1 : Nat) (Option.some Jvm.ClassFile.FieldType.byte), Jvm.Cond.code ({ cls := "java/lang/Long", name := "<init>", desc := "(J)V" } : Jvm.MethodName) jdk_35_method_26_code (3 : Nat) (Option.none : Option Jvm.ClassFile.FieldType), Jvm.Cond.code ({ cls := "java/lang/Number", name := "<init>", desc := "()V" } : Jvm.MethodName) jdk_18_method_1_code (1 : Nat) (Option.none : Option Jvm.ClassFile.FieldType)]
set_option maxRecDepth 65536 in
theorem codes_eq : words1.filter isCode = codes1 := rfl
theorem w_codes : ∀ c ∈ words1.filter isCode, c.before args0 about1 = true := by
  rw [codes_eq]
  intro c hc
  simp only [codes1, List.mem_cons, List.not_mem_nil, or_false] at hc
  rcases hc with rfl | rfl | rfl | rfl | rfl | rfl | rfl | rfl | rfl | rfl | rfl | rfl | rfl | rfl
  · exact w_c0
  · exact w_c1
  · exact w_c2
  · exact w_c3
  · exact w_c4
  · exact w_c5
  · exact w_c6
  · exact w_c7
  · exact w_c8
  · exact w_c9
  · exact w_c10
  · exact w_c11
  · exact w_c12
  · exact w_c13
set_option maxRecDepth 65536 in
theorem w_t1 : (words1.take 24).all (fun c => isCode c || c.before args0 about1) = true := by decide +kernel
set_option maxRecDepth 65536 in
theorem w_t2 : ((words1.drop 24).take 24).all (fun c => isCode c || c.before args0 about1) = true := by decide +kernel
set_option maxRecDepth 65536 in
theorem w_t3 : (((words1.drop 24).drop 24).take 24).all (fun c => isCode c || c.before args0 about1) = true := by decide +kernel
set_option maxRecDepth 65536 in
theorem w_t4 : (((words1.drop 24).drop 24).drop 24).all (fun c => isCode c || c.before args0 about1) = true := by decide +kernel
theorem w_tables : (allAtoms (Jvm.Cond.code x code maxLocals ret :: tables_1)).before args0 about1 = true := by
  rw [allAtoms_all]
  show words1.all (fun c => c.before args0 about1) = true
  refine all_split ?_ w_codes
  rw [← List.take_append_drop 24 words1, List.all_append, w_t1, ← List.take_append_drop 24 (words1.drop 24), List.all_append, w_t2, ← List.take_append_drop 24 ((words1.drop 24).drop 24), List.all_append, w_t3, w_t4]
  rfl
set_option maxRecDepth 65536 in
theorem w_rest : rest_1_c.before args0 about1 = true := by decide +kernel
set_option maxRecDepth 65536 in
theorem w_case : (Jvm.Cond.and given_1 narrow_1).before args0 about1 = true := by decide +kernel
theorem w_applies : (headSpec (Jvm.Cond.code x code maxLocals ret :: tables_1) room_1).applies x e0.platform about1 = true :=
  (Spec.applies_iff w_frames).mpr ⟨w_running, w_runnable, w_alone, w_named, w_hears, w_ripe, w_room, w_tables⟩
theorem atStart : AtStart classFile x code maxLocals ret World_1 tables_1 room_1 Calls_1 rest_1 Pre_1 launch0 p0 e0 about1 theMethod args0 below0 :=
  ⟨lists_1, trivial, launch0.admits_env _ _ _, launch0.least_env, fairChoices_fair.cas, fairChoices_fair.clock, w_frames, w_args, w_heap, w_applies, trivial, w_rest, w_case⟩
end start1
theorem witness_1 : WitnessClaimed_1 := ⟨start1.p0, start1.e0, start1.about1, start1.theMethod, start1.args0, start1.below0, start1.atStart⟩
end Jvm.Pilot.@@N@@
