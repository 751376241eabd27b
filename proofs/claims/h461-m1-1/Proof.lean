import JvmDerived
import JvmDerived.Pilot.@@N@@Statement
import JvmDerived.Pilot.@@N@@Code
set_option linter.unusedVariables false
set_option linter.unusedSimpArgs false
namespace Jvm.Pilot.@@N@@
open Jvm Jvm.ClassFile Sem Op Lib Jvm.Free Jvm.Stand Jvm.LawKit Jvm.RoadKit Bundle Jvm.Pilot.@@N@@.Jvm.D
section OwnKit
variable {p : Program} {l : Launch} {e : Env} {R : Room} {s : State} {m : MethodId} {args : Array Value} {below : List Frame} {meth : Method} {c : Code} {T : State} {locs : List Loc} {cells slots : Nat} {Z : State} {a0 : Array Value} {h : Heap}
/-- from U the invocation ends, returns v, and Q holds of v, the heap and the written places -/
def OGo (p : Program) (e : Env) (below : List Frame) (s : State) (R : Room) (Q : Option Value → Heap → List Loc → Prop) (U : State) : Prop :=
  ∃ s₂ o, Steps p.tables e below U s₂ ∧ s₂.status = .running ∧ Ended s₂ below o ∧ ∃ v L, o = .returned v ∧ Q v s₂.heap L ∧ FrameEnd s o s₂ L R.cells R.slots
variable {Q : Option Value → Heap → List Loc → Prop}
theorem own_st {A B : State} (hs : ∀ t, Steps p.tables e below A t → Steps p.tables e below B t) (k : OGo p e below s R Q A) : OGo p e below s R Q B := by
  obtain ⟨t, o, h1, h2⟩ := k
  exact ⟨t, o, hs t h1, h2⟩
theorem own_ret {v : Option Value} {U : State} (X : Stand p l e R s m args below meth c T locs cells slots) (hlk : meth.locks = false) (hv : meth.sig.returnType = none → v = none) (hc : cells ≤ R.cells) (hs : slots ≤ R.slots) (hq : Q v T.heap locs)
    (st : ∀ fs, (∀ (f : JFrame) (acts : List Action), f.method = m → f.locked = none → f.entered = [] → (doReturn e (T.setTop f) acts v).1 = T.setFrames fs) → Steps p.tables e below U (T.setFrames fs)) : OGo p e below s R Q U := by
  obtain ⟨fs, hr, hrun, hended, hW, hsame⟩ := X.leave (v := v) hv hlk
  exact ⟨_, _, st fs hr, hrun, hended, v, locs, rfl, hq, ⟨_, rfl⟩, hW, hsame.mono hc hs⟩
theorem own_retV (X : Stand p l e R s m args below meth c T locs cells slots) (hx : p.tables.exec = Jvm.exec) (hlk : meth.locks = false) {pc : Nat} {Ls : Array Slot} (hret : meth.sig.returnType = none) (hd : decode c.code pc = .ok (.return_, 1)) (hc : cells ≤ R.cells) (hs : slots ≤ R.slots) (hq : Q none T.heap locs) :
    OGo p e below s R Q (T.setTop (mkF m pc Ls [])) :=
  own_ret X hlk (fun _ => rfl) hc hs hq fun fs hr => X.returnOut hx hret hd hr
theorem own_retN (X : Stand p l e R s m args below meth c T locs cells slots) (hx : p.tables.exec = Jvm.exec) (hlk : meth.locks = false) {pc : Nat} {Ls : Array Slot} {z : Int32} {t : FieldType} {rest : List Value} (hret : meth.sig.returnType = some t) (ht : t = .boolean ∨ t = .byte ∨ t = .char ∨ t = .short)
    (hd : decode c.code pc = .ok (.ireturn, 1)) (hc : cells ≤ R.cells) (hs : slots ≤ R.slots) (hq : Q (some (.int (nar t z))) T.heap locs) : OGo p e below s R Q (T.setTop (mkF m pc Ls (.int z :: rest))) :=
  own_ret X hlk (fun q => by rw [hret] at q; cases q) hc hs hq fun fs hr => retN X hx hret ht hd hr
theorem own_retI (X : Stand p l e R s m args below meth c T locs cells slots) (hx : p.tables.exec = Jvm.exec) (hlk : meth.locks = false) {pc : Nat} {Ls : Array Slot} {z : Int32} {rest : List Value} (hret : meth.sig.returnType = some .int)
    (hd : decode c.code pc = .ok (.ireturn, 1)) (hc : cells ≤ R.cells) (hs : slots ≤ R.slots) (hq : Q (some (.int z)) T.heap locs) : OGo p e below s R Q (T.setTop (mkF m pc Ls (.int z :: rest))) :=
  own_ret X hlk (fun q => by rw [hret] at q; cases q) hc hs hq fun fs hr => by
    have hm' : T.vm.method? m = some meth := X.method'
    have hn : narrow .int (.int z) = .int z := rfl
    show Steps p.tables e below (T.setTop { method := m, pc := pc, locals := Ls, stack := _ :: rest, locked := none }) _
    jvm_step X.here [X.here.top, hx, hd, hm', hret, hn]
    first | (intro acts; rw [hr _ acts rfl rfl rfl]) | rw [hr _ _ rfl rfl rfl]
    exact Steps.refl _
theorem own_retJ (X : Stand p l e R s m args below meth c T locs cells slots) (hx : p.tables.exec = Jvm.exec) (hlk : meth.locks = false) {pc : Nat} {Ls : Array Slot} {z : Int64} {rest : List Value} (hret : meth.sig.returnType = some .long)
    (hd : decode c.code pc = .ok (.lreturn, 1)) (hc : cells ≤ R.cells) (hs : slots ≤ R.slots) (hq : Q (some (.long z)) T.heap locs) : OGo p e below s R Q (T.setTop (mkF m pc Ls (.long z :: rest))) :=
  own_ret X hlk (fun q => by rw [hret] at q; cases q) hc hs hq fun fs hr => by
    show Steps p.tables e below (T.setTop { method := m, pc := pc, locals := Ls, stack := _ :: rest, locked := none }) _
    jvm_step X.here [X.here.top, hx, hd, X.method', hret, narrow]
    first | (intro acts; rw [hr _ acts rfl rfl rfl]) | rw [hr _ _ rfl rfl rfl]
    exact Steps.refl _
theorem own_retA (X : Stand p l e R s m args below meth c T locs cells slots) (hx : p.tables.exec = Jvm.exec) (hlk : meth.locks = false) {pc : Nat} {Ls : Array Slot} {z : Value} {rest : List Value} {t : FieldType} (hret : meth.sig.returnType = some t) (hz : z.isRef = true) (ht : t.isReference = true)
    (hd : decode c.code pc = .ok (.areturn, 1)) (hc : cells ≤ R.cells) (hs : slots ≤ R.slots) (hq : Q (some z) T.heap locs) : OGo p e below s R Q (T.setTop (mkF m pc Ls (z :: rest))) :=
  own_ret X hlk (fun q => by rw [hret] at q; cases q) hc hs hq fun fs hr => by
    show Steps p.tables e below (T.setTop { method := m, pc := pc, locals := Ls, stack := _ :: rest, locked := none }) _
    jvm_step X.here [X.here.top, hx, hd, X.method', hret, hz, ht]
    first | (intro acts; rw [hr _ acts rfl rfl rfl]) | rw [hr _ _ rfl rfl rfl]
    exact Steps.refl _
/-- the contract of a body at the arguments 'as' and the heap h0 -/
abbrev OMet (l : Launch) (Z : State) (y : MethodName) (bytes : ByteArray) (ml : Nat) (rt : Option FieldType) (ws : List Jvm.Cond) (R : Room) (as : Array Value) (h0 : Heap) (Q : Option Value → Heap → List Loc → Prop) : Prop :=
  MetFree l y (head1 (Jvm.Cond.code y bytes ml rt :: ws) R) (fun a U => a = as ∧ Z.Warmed39 U.vm ∧ U.heap = h0) (fun _ _ _ _ _ => True) (fun _ U o U' => ∃ v L, o = .returned v ∧ Q v U'.heap L ∧ FrameEnd U o U' L R.cells R.slots)
/-- .. of one that returns v and leaves everything -/
abbrev OPure (l : Launch) (Z : State) (y : MethodName) (bytes : ByteArray) (ml : Nat) (rt : Option FieldType) (ws : List Jvm.Cond) (R : Room) (as : Array Value) (h0 : Heap) (v : Option Value) : Prop :=
  OMet l Z y bytes ml rt ws R as h0 (fun v' h' L => v' = v ∧ L = [] ∧ h' = h0)
theorem own_body {y : MethodName} {bytes : ByteArray} {ml : Nat} {rt : Option FieldType} {ws : List Jvm.Cond} {as : Array Value} {h0 : Heap} {L0 : Array Slot} (hp : plainFor y = true) (ef : ∀ m, entryFrame m as ml = mkF m 0 L0 [])
    (body : ∀ p e s m below meth c T, p.tables.exec = Jvm.exec → c.code = bytes → c.maxLocals = ml → s.vm.findClass y.cls = some m.cls → meth.name = y.name → meth.sig.returnType = rt → meth.locks = false → Z.Warmed39 s.vm →
      Stand p l e R s m as below meth c T [] 0 0 → T.heap = h0 → OGo p e below s R Q (T.setTop (mkF m 0 L0 []))) : OMet l Z y bytes ml rt ws R as h0 Q := by
  refine MetFree.of_bodySF hp hisR ?_
  intro p e s m args below meth c s₁ Bd hml0 hP hK
  obtain ⟨rfl, hZ, hh⟩ := hP
  have X0 : Stand p l e R s m _ below meth c s₁ [] 0 0 := Stand.of_body Bd
  obtain ⟨t, o, h1, h2⟩ := body p e s m below meth c s₁ Bd.exec Bd.bytes hml0 (findClass_of_methodNamed Bd.named) (name_of_methodNamed Bd.named Bd.method).1 Bd.returns Bd.notSynchronized hZ X0 (by rw [← hh, Bd.state]; rfl)
  exact ⟨t, o, castTop (ef m) h1, h2⟩
variable {own : String} {index : Nat} {y z : MethodName} {bytes : ByteArray} {ml W : Nat} {rt : Option FieldType} {rm : Room} {as : Array Value}
theorem own_callS (X : Stand p l e R s m args below meth c T locs cells slots) (hx : p.tables.exec = Jvm.exec) (hZ : Z.Warmed39 s.vm) (hown : s.vm.findClass own = some m.cls)
    (w1 : (Jvm.Cond.methodLink own index y).before a0 Z = true) (w2 : (Jvm.Cond.static y).before a0 Z = true) (w3 : (Jvm.Cond.initialized y.cls).before a0 Z = true) (w4 : (Jvm.Cond.code y bytes ml rt).before a0 Z = true)
    (hy : y.cls ≠ "java/lang/invoke/MethodHandle" ∧ y.cls ≠ "java/lang/invoke/VarHandle") (hM : OMet l Z y bytes ml rt [] rm as h Q) (hf : rm.frames + 1 ≤ R.frames) (hl : W + (ml + 11) + rm.locals ≤ R.locals)
    {g : JFrame} (hg : g.method = m) (hsz : g.locals.size = c.maxLocals) {argsL rest : List Value} (hlen : ∀ sig, parseMethodDescriptor y.desc = some sig → argsL.length = sig.parameters.length) (hstack : g.stack = argsL.reverse ++ rest)
    (hW : 2 * g.monitorRoom + (rest.map fun v => v.category).sum ≤ W) (hd : decode c.code g.pc = .ok (.invokestatic index, 3)) (ha : argsL.toArray = as) (eT : T.heap = h) (hc : cells + rm.cells ≤ R.cells) (hs : slots + rm.slots ≤ R.slots) :
    ∃ v T' L, Stand p l e R s m args below meth c T' (locs ++ L) (cells + rm.cells) (slots + rm.slots) ∧ Q v T'.heap L ∧ ∀ t, Steps p.tables e below (T'.setTop { g with pc := g.pc + 3, stack := v.toList ++ rest }) t → Steps p.tables e below (T.setTop g) t := by
  obtain ⟨v, _, ⟨T3, L3, k3, n3⟩, -, X3, ⟨Lc3, hQ3, l3, y3, z3⟩, st3⟩ := Jvm.LawKit.callS X hx (y := y) hown (mvT hZ w1) (mvT hZ w2) (mvT hZ w3) (mvT hZ w4) hy (backOf (W := W) hM hZ w4 w3 hf hl) hg hsz hlen hstack hW hd (fun _ _ => ⟨ha, eT, hc, hs⟩)
  dsimp only [Pt.U, Pt.locs, Pt.cells, Pt.slots] at X3 l3 y3 z3 st3 hQ3
  subst l3 y3 z3
  exact ⟨v, T3, Lc3, X3, hQ3, st3⟩
theorem own_callSP {v0 : Option Value} (X : Stand p l e R s m args below meth c T locs cells slots) (hx : p.tables.exec = Jvm.exec) (hZ : Z.Warmed39 s.vm) (hown : s.vm.findClass own = some m.cls)
    (w1 : (Jvm.Cond.methodLink own index y).before a0 Z = true) (w2 : (Jvm.Cond.static y).before a0 Z = true) (w3 : (Jvm.Cond.initialized y.cls).before a0 Z = true) (w4 : (Jvm.Cond.code y bytes ml rt).before a0 Z = true)
    (hy : y.cls ≠ "java/lang/invoke/MethodHandle" ∧ y.cls ≠ "java/lang/invoke/VarHandle") (hM : OPure l Z y bytes ml rt [] rm as h v0) (hf : rm.frames + 1 ≤ R.frames) (hl : W + (ml + 11) + rm.locals ≤ R.locals)
    {g : JFrame} (hg : g.method = m) (hsz : g.locals.size = c.maxLocals) {argsL rest : List Value} (hlen : ∀ sig, parseMethodDescriptor y.desc = some sig → argsL.length = sig.parameters.length) (hstack : g.stack = argsL.reverse ++ rest)
    (hW : 2 * g.monitorRoom + (rest.map fun v => v.category).sum ≤ W) (hd : decode c.code g.pc = .ok (.invokestatic index, 3)) (ha : argsL.toArray = as) (eT : T.heap = h) (hc : cells + rm.cells ≤ R.cells) (hs : slots + rm.slots ≤ R.slots) :
    ∃ T', Stand p l e R s m args below meth c T' locs (cells + rm.cells) (slots + rm.slots) ∧ T'.heap = h ∧ ∀ t, Steps p.tables e below (T'.setTop { g with pc := g.pc + 3, stack := v0.toList ++ rest }) t → Steps p.tables e below (T.setTop g) t := by
  obtain ⟨v, T', L, X', ⟨rfl, rfl, e'⟩, st⟩ := own_callS X hx hZ hown w1 w2 w3 w4 hy hM hf hl hg hsz hlen hstack hW hd ha eT hc hs
  rw [List.append_nil] at X'
  exact ⟨T', X', e', st⟩
theorem own_callI (X : Stand p l e R s m args below meth c T locs cells slots) (hx : p.tables.exec = Jvm.exec) (hZ : Z.Warmed39 s.vm) (hy1 : y.name = "<init>") (hown : s.vm.findClass own = some m.cls)
    (w1 : (Jvm.Cond.methodLink own index y).before a0 Z = true) (w2 : (Jvm.Cond.instanceMethod y).before a0 Z = true) (w4 : (Jvm.Cond.code y bytes ml none).before a0 Z = true) (w3 : (Jvm.Cond.initialized y.cls).before a0 Z = true)
    (hy : y.cls ≠ "java/lang/invoke/MethodHandle" ∧ y.cls ≠ "java/lang/invoke/VarHandle") (hM : OMet l Z y bytes ml none [] rm as h Q) (hf : rm.frames + 1 ≤ R.frames) (hl : W + (ml + 11) + rm.locals ≤ R.locals) {a : Addr}
    {g : JFrame} (hg : g.method = m) (hsz : g.locals.size = c.maxLocals) {argsL rest : List Value} (hlen : ∀ sig, parseMethodDescriptor y.desc = some sig → argsL.length = sig.parameters.length) (hstack : g.stack = argsL.reverse ++ .ref a :: rest)
    (hW : 2 * g.monitorRoom + (rest.map fun v => v.category).sum ≤ W) (hd : decode c.code g.pc = .ok (.invokespecial index, 3)) (ha : (.ref a :: argsL).toArray = as) (eT : T.heap = h) (hc : cells + rm.cells ≤ R.cells) (hs : slots + rm.slots ≤ R.slots) :
    ∃ v T' L, Stand p l e R s m args below meth c T' (locs ++ L) (cells + rm.cells) (slots + rm.slots) ∧ Q v T'.heap L ∧ ∀ t, Steps p.tables e below (T'.setTop { g with pc := g.pc + 3, stack := v.toList ++ rest }) t → Steps p.tables e below (T.setTop g) t := by
  obtain ⟨v, _, ⟨T3, L3, k3, n3⟩, -, X3, ⟨Lc3, hQ3, l3, y3, z3⟩, st3⟩ := X.specialBack hx (y := y) hy1 hown (mvT hZ w1) (mvT hZ w2) (mvT hZ w4) hy (backOf (W := W) hM hZ w4 w3 hf hl) hg hsz (Steps.refl _) (a := a) hlen hstack hW hd (fun _ _ => ⟨ha, eT, hc, hs⟩)
  dsimp only [Pt.U, Pt.locs, Pt.cells, Pt.slots] at X3 l3 y3 z3 st3 hQ3
  subst l3 y3 z3
  exact ⟨v, T3, Lc3, X3, hQ3, fun t k => st3.trans k⟩
theorem own_callIP {v0 : Option Value} (X : Stand p l e R s m args below meth c T locs cells slots) (hx : p.tables.exec = Jvm.exec) (hZ : Z.Warmed39 s.vm) (hy1 : y.name = "<init>") (hown : s.vm.findClass own = some m.cls)
    (w1 : (Jvm.Cond.methodLink own index y).before a0 Z = true) (w2 : (Jvm.Cond.instanceMethod y).before a0 Z = true) (w4 : (Jvm.Cond.code y bytes ml none).before a0 Z = true) (w3 : (Jvm.Cond.initialized y.cls).before a0 Z = true)
    (hy : y.cls ≠ "java/lang/invoke/MethodHandle" ∧ y.cls ≠ "java/lang/invoke/VarHandle") (hM : OPure l Z y bytes ml none [] rm as h v0) (hf : rm.frames + 1 ≤ R.frames) (hl : W + (ml + 11) + rm.locals ≤ R.locals) {a : Addr}
    {g : JFrame} (hg : g.method = m) (hsz : g.locals.size = c.maxLocals) {argsL rest : List Value} (hlen : ∀ sig, parseMethodDescriptor y.desc = some sig → argsL.length = sig.parameters.length) (hstack : g.stack = argsL.reverse ++ .ref a :: rest)
    (hW : 2 * g.monitorRoom + (rest.map fun v => v.category).sum ≤ W) (hd : decode c.code g.pc = .ok (.invokespecial index, 3)) (ha : (.ref a :: argsL).toArray = as) (eT : T.heap = h) (hc : cells + rm.cells ≤ R.cells) (hs : slots + rm.slots ≤ R.slots) :
    ∃ T', Stand p l e R s m args below meth c T' locs (cells + rm.cells) (slots + rm.slots) ∧ T'.heap = h ∧ ∀ t, Steps p.tables e below (T'.setTop { g with pc := g.pc + 3, stack := v0.toList ++ rest }) t → Steps p.tables e below (T.setTop g) t := by
  obtain ⟨v, T', L, X', ⟨rfl, rfl, e'⟩, st⟩ := own_callI X hx hZ hy1 hown w1 w2 w4 w3 hy hM hf hl hg hsz hlen hstack hW hd ha eT hc hs
  rw [List.append_nil] at X'
  exact ⟨T', X', e', st⟩
theorem own_callV {C : String} (X : Stand p l e R s m args below meth c T locs cells slots) (hx : p.tables.exec = Jvm.exec) (hZ : Z.Warmed39 s.vm) (hown : s.vm.findClass own = some m.cls)
    (w1 : (Jvm.Cond.methodLink own index y).before a0 Z = true) (w2 : (Jvm.Cond.declares y).before a0 Z = true) (hnf : NotFace s y) (ws : (Jvm.Cond.selects C y z).before a0 Z = true) (wi : (Jvm.Cond.instanceMethod z).before a0 Z = true)
    (w4 : (Jvm.Cond.code z bytes ml rt).before a0 Z = true) (w3 : (Jvm.Cond.initialized z.cls).before a0 Z = true)
    (hy : y.cls ≠ "java/lang/invoke/MethodHandle" ∧ y.cls ≠ "java/lang/invoke/VarHandle") (hM : OMet l Z z bytes ml rt [] rm as h Q) (hf : rm.frames + 1 ≤ R.frames) (hl : W + (ml + 11) + rm.locals ≤ R.locals) {a : Addr} (E : Exa Z h a C)
    {g : JFrame} (hg : g.method = m) (hsz : g.locals.size = c.maxLocals) {argsL rest : List Value} (hlen : ∀ sig, parseMethodDescriptor y.desc = some sig → argsL.length = sig.parameters.length) (hstack : g.stack = argsL.reverse ++ .ref a :: rest)
    (hW : 2 * g.monitorRoom + (rest.map fun v => v.category).sum ≤ W) (hd : decode c.code g.pc = .ok (.invokevirtual index, 3)) (ha : (.ref a :: argsL).toArray = as) (eT : T.heap = h) (hc : cells + rm.cells ≤ R.cells) (hs : slots + rm.slots ≤ R.slots) :
    ∃ v T' L, Stand p l e R s m args below meth c T' (locs ++ L) (cells + rm.cells) (slots + rm.slots) ∧ Q v T'.heap L ∧ ∀ t, Steps p.tables e below (T'.setTop { g with pc := g.pc + 3, stack := v.toList ++ rest }) t → Steps p.tables e below (T.setTop g) t := by
  obtain ⟨cq, kq, qa, qb, qc⟩ := isOf hZ eT E
  obtain ⟨v, _, ⟨T3, L3, k3, n3⟩, -, X3, ⟨Lc3, hQ3, l3, y3, z3⟩, st3⟩ := X.virtualBack hx (y := y) (z := z) hown (mvT hZ w1) (mvT hZ w2) hnf (mvT hZ ws) (mvT hZ wi) hy (backOf (W := W) hM hZ w4 w3 hf hl) qa qc hg hsz (Steps.refl _) hlen hstack hW hd (fun _ _ => ⟨ha, eT, hc, hs⟩)
  dsimp only [Pt.U, Pt.locs, Pt.cells, Pt.slots] at X3 l3 y3 z3 st3 hQ3
  subst l3 y3 z3
  exact ⟨v, T3, Lc3, X3, hQ3, fun t k => st3.trans k⟩
theorem own_callVP {C : String} {v0 : Option Value} (X : Stand p l e R s m args below meth c T locs cells slots) (hx : p.tables.exec = Jvm.exec) (hZ : Z.Warmed39 s.vm) (hown : s.vm.findClass own = some m.cls)
    (w1 : (Jvm.Cond.methodLink own index y).before a0 Z = true) (w2 : (Jvm.Cond.declares y).before a0 Z = true) (hnf : NotFace s y) (ws : (Jvm.Cond.selects C y z).before a0 Z = true) (wi : (Jvm.Cond.instanceMethod z).before a0 Z = true)
    (w4 : (Jvm.Cond.code z bytes ml rt).before a0 Z = true) (w3 : (Jvm.Cond.initialized z.cls).before a0 Z = true)
    (hy : y.cls ≠ "java/lang/invoke/MethodHandle" ∧ y.cls ≠ "java/lang/invoke/VarHandle") (hM : OPure l Z z bytes ml rt [] rm as h v0) (hf : rm.frames + 1 ≤ R.frames) (hl : W + (ml + 11) + rm.locals ≤ R.locals) {a : Addr} (E : Exa Z h a C)
    {g : JFrame} (hg : g.method = m) (hsz : g.locals.size = c.maxLocals) {argsL rest : List Value} (hlen : ∀ sig, parseMethodDescriptor y.desc = some sig → argsL.length = sig.parameters.length) (hstack : g.stack = argsL.reverse ++ .ref a :: rest)
    (hW : 2 * g.monitorRoom + (rest.map fun v => v.category).sum ≤ W) (hd : decode c.code g.pc = .ok (.invokevirtual index, 3)) (ha : (.ref a :: argsL).toArray = as) (eT : T.heap = h) (hc : cells + rm.cells ≤ R.cells) (hs : slots + rm.slots ≤ R.slots) :
    ∃ T', Stand p l e R s m args below meth c T' locs (cells + rm.cells) (slots + rm.slots) ∧ T'.heap = h ∧ ∀ t, Steps p.tables e below (T'.setTop { g with pc := g.pc + 3, stack := v0.toList ++ rest }) t → Steps p.tables e below (T.setTop g) t := by
  obtain ⟨v, T', L, X', ⟨rfl, rfl, e'⟩, st⟩ := own_callV X hx hZ hown w1 w2 hnf ws wi w4 w3 hy hM hf hl E hg hsz hlen hstack hW hd ha eT hc hs
  rw [List.append_nil] at X'
  exact ⟨T', X', e', st⟩
theorem own_callR (X : Stand p l e R s m args below meth c T locs cells slots) (hx : p.tables.exec = Jvm.exec) (hZ : Z.Warmed39 s.vm) (hown : s.vm.findClass own = some m.cls)
    (w1 : (Jvm.Cond.methodLink own index y).before a0 Z = true) (w2 : (Jvm.Cond.instanceMethod y).before a0 Z = true) (ws : (Jvm.Cond.selects y.cls y y).before a0 Z = true) (wp : (Jvm.Cond.privateMethod y).before a0 Z = true)
    (w4 : (Jvm.Cond.code y bytes ml rt).before a0 Z = true) (w3 : (Jvm.Cond.initialized y.cls).before a0 Z = true)
    (hy : y.cls ≠ "java/lang/invoke/MethodHandle" ∧ y.cls ≠ "java/lang/invoke/VarHandle") (hM : OMet l Z y bytes ml rt [] rm as h Q) (hf : rm.frames + 1 ≤ R.frames) (hl : W + (ml + 11) + rm.locals ≤ R.locals) {a : Addr} {C : String} (E : Exa Z h a C)
    {g : JFrame} (hg : g.method = m) (hsz : g.locals.size = c.maxLocals) {argsL rest : List Value} (hlen : ∀ sig, parseMethodDescriptor y.desc = some sig → argsL.length = sig.parameters.length) (hstack : g.stack = argsL.reverse ++ .ref a :: rest)
    (hW : 2 * g.monitorRoom + (rest.map fun v => v.category).sum ≤ W) (hd : decode c.code g.pc = .ok (.invokevirtual index, 3)) (ha : (.ref a :: argsL).toArray = as) (eT : T.heap = h) (hc : cells + rm.cells ≤ R.cells) (hs : slots + rm.slots ≤ R.slots) :
    ∃ v T' L, Stand p l e R s m args below meth c T' (locs ++ L) (cells + rm.cells) (slots + rm.slots) ∧ Q v T'.heap L ∧ ∀ t, Steps p.tables e below (T'.setTop { g with pc := g.pc + 3, stack := v.toList ++ rest }) t → Steps p.tables e below (T.setTop g) t := by
  obtain ⟨cq, qa, qb⟩ := E.cell
  obtain ⟨v, _, ⟨T3, L3, k3, n3⟩, -, X3, ⟨Lc3, hQ3, l3, y3, z3⟩, st3⟩ := X.privateBack hx (y := y) hown (mvT hZ w1) (mvT hZ w2) (mvT hZ ws) (Cond.privateMethod_at (mvP hZ wp (args := #[]))) (mvT hZ w4) hy (backOf (W := W) hM hZ w4 w3 hf hl) hg hsz (Steps.refl _) (a := a) (by rw [eT]; exact qa) qb hlen hstack hW hd (fun _ _ => ⟨ha, eT, hc, hs⟩)
  dsimp only [Pt.U, Pt.locs, Pt.cells, Pt.slots] at X3 l3 y3 z3 st3 hQ3
  subst l3 y3 z3
  exact ⟨v, T3, Lc3, X3, hQ3, fun t k => st3.trans k⟩
theorem own_callRP {v0 : Option Value} (X : Stand p l e R s m args below meth c T locs cells slots) (hx : p.tables.exec = Jvm.exec) (hZ : Z.Warmed39 s.vm) (hown : s.vm.findClass own = some m.cls)
    (w1 : (Jvm.Cond.methodLink own index y).before a0 Z = true) (w2 : (Jvm.Cond.instanceMethod y).before a0 Z = true) (ws : (Jvm.Cond.selects y.cls y y).before a0 Z = true) (wp : (Jvm.Cond.privateMethod y).before a0 Z = true)
    (w4 : (Jvm.Cond.code y bytes ml rt).before a0 Z = true) (w3 : (Jvm.Cond.initialized y.cls).before a0 Z = true)
    (hy : y.cls ≠ "java/lang/invoke/MethodHandle" ∧ y.cls ≠ "java/lang/invoke/VarHandle") (hM : OPure l Z y bytes ml rt [] rm as h v0) (hf : rm.frames + 1 ≤ R.frames) (hl : W + (ml + 11) + rm.locals ≤ R.locals) {a : Addr} {C : String} (E : Exa Z h a C)
    {g : JFrame} (hg : g.method = m) (hsz : g.locals.size = c.maxLocals) {argsL rest : List Value} (hlen : ∀ sig, parseMethodDescriptor y.desc = some sig → argsL.length = sig.parameters.length) (hstack : g.stack = argsL.reverse ++ .ref a :: rest)
    (hW : 2 * g.monitorRoom + (rest.map fun v => v.category).sum ≤ W) (hd : decode c.code g.pc = .ok (.invokevirtual index, 3)) (ha : (.ref a :: argsL).toArray = as) (eT : T.heap = h) (hc : cells + rm.cells ≤ R.cells) (hs : slots + rm.slots ≤ R.slots) :
    ∃ T', Stand p l e R s m args below meth c T' locs (cells + rm.cells) (slots + rm.slots) ∧ T'.heap = h ∧ ∀ t, Steps p.tables e below (T'.setTop { g with pc := g.pc + 3, stack := v0.toList ++ rest }) t → Steps p.tables e below (T.setTop g) t := by
  obtain ⟨v, T', L, X', ⟨rfl, rfl, e'⟩, st⟩ := own_callR X hx hZ hown w1 w2 ws wp w4 w3 hy hM hf hl E hg hsz hlen hstack hW hd ha eT hc hs
  rw [List.append_nil] at X'
  exact ⟨T', X', e', st⟩
/-- the array at a has n places; place j holds f j -/
def OAr (Z : State) (h : Heap) (a : Addr) (ty : FieldType) (n : Nat) (f : Nat → Value) : Prop := ∃ c : Cell, Arr Z h a c ty ∧ c.slots.size = n ∧ ∀ j, j < n → c.slots[j]? = some (f j)
section OwnArr
variable {h' : Heap} {a b : Addr} {ty : FieldType} {n sl : Nat} {f f' : Nat → Value} {v : Value} {k : ClassId} {i : Int32}
theorem OAr.lt (F : OAr Z h a ty n f) : a < h.size := by obtain ⟨c, A, -⟩ := F; exact A.lt
theorem OAr.ext (F : OAr Z h a ty n f) (E : Ext h h') : OAr Z h' a ty n f := by obtain ⟨c, A, r⟩ := F; exact ⟨c, A.ext E, r⟩
theorem OAr.other (F : OAr Z h a ty n f) (W : Wr h h' b sl v) (q : a ≠ b) : OAr Z h' a ty n f := by obtain ⟨c, A, r⟩ := F; exact ⟨c, A.other W q, r⟩
theorem OAr.keep {ws : List Addr} (F : OAr Z h a ty n f) (K : Keep h h' ws) (q : a ∉ ws) : OAr Z h' a ty n f := by obtain ⟨c, A, r⟩ := F; exact ⟨c, ⟨K.2.1 a c A.1 q, A.2⟩, r⟩
theorem OAr.cong (F : OAr Z h a ty n f) (q : ∀ j, j < n → f j = f' j) : OAr Z h a ty n f' := by obtain ⟨c, A, S, H⟩ := F; exact ⟨c, A, S, fun j hj => by rw [← q j hj]; exact H j hj⟩
theorem OAr.new (A : Arr Z h a (newA k ty i) ty) : OAr Z h a ty i.toNatClampNeg (fun _ => defaultValue ty) := ⟨_, A, sz_new _ _ _, fun j hj => by simp [newA, hj]⟩
theorem OAr.set {c : Cell} (A : Arr Z h a c ty) (S : c.slots.size = n) (H : ∀ j, j < n → c.slots[j]? = some (f j)) (W : Wr h h' a sl v) : OAr Z h' a ty n (fun j => if j = sl then v else f j) := by
  refine ⟨_, A.same W, by rw [sz_set]; exact S, fun j hj => ?_⟩
  by_cases q : j = sl
  · subst q
    simp [Cell.setSlot, S, hj]
  · simp only [q, if_false, Cell.setSlot]
    rw [Array.getElem?_setIfInBounds_ne (Ne.symm q)]
    exact H j hj
theorem own_in {c : Cell} (S : c.slots.size = n) (h0 : ¬ i < 0) (h1 : i.toNatClampNeg < n) : ¬ (i < 0 ∨ c.slots.size ≤ i.toNatClampNeg) := by
  rintro (q | q)
  · exact h0 q
  · omega
/-- the clone of an array -/
theorem own_clone {own ad : String} {index : Nat} (X : Stand p l e R s m args below meth c T locs cells slots) (hx : p.tables.exec = Jvm.exec) (hZ : Z.Warmed39 s.vm) (hown : s.vm.findClass own = some m.cls)
    (w1 : (Jvm.Cond.methodLink own index ⟨ad, "clone", "()Ljava/lang/Object;"⟩).before a0 Z = true) (w2 : (Jvm.Cond.sameMethod ad "java/lang/Object" "clone" "()Ljava/lang/Object;").before a0 Z = true) (w3 : (Jvm.Cond.native ⟨"java/lang/Object", "clone", "()Ljava/lang/Object;"⟩).before a0 Z = true)
    (w4 : (Jvm.Cond.instanceMethod ⟨"java/lang/Object", "clone", "()Ljava/lang/Object;"⟩).before a0 Z = true) (w5 : (Jvm.Cond.selects ad ⟨ad, "clone", "()Ljava/lang/Object;"⟩ ⟨"java/lang/Object", "clone", "()Ljava/lang/Object;"⟩).before a0 Z = true) (w6 : (Jvm.Cond.castable ad "java/lang/Cloneable").before a0 Z = true)
    (eT : T.heap = h) (F : OAr Z h a ty n f) (E : Exa Z h a ad) (hfit : ∀ j, j < n → fits ty (f j) = true) {g : JFrame} (hg : g.method = m) (hsize : g.locals.size = c.maxLocals) {rest : List Value} (hst : g.stack = .ref a :: rest) (hd : decode c.code g.pc = .ok (.invokevirtual index, 3))
    (hf : 1 ≤ R.frames) {W : Nat} (hW : 2 * g.monitorRoom + (rest.map fun v => v.category).sum ≤ W) (hl : W + 14 ≤ R.locals) {cap : Nat} (hcap : n ≤ cap) (hc : cells + 1 ≤ R.cells) (hsl : slots + cap ≤ R.slots) :
    ∃ T' h', Stand p l e R s m args below meth c T' locs (cells + 1) (slots + cap) ∧ T'.heap = h' ∧ Ext h h' ∧ OAr Z h' h.size ty n f ∧ Exa Z h' h.size ad ∧
      ∀ target, Steps p.tables e below (T'.setTop { g with pc := g.pc + 3, stack := .ref h.size :: rest }) target → Steps p.tables e below (T.setTop g) target := by
  obtain ⟨cl, A, S, H⟩ := F
  have FC : FitC Z cl := fitC_of A fun i hi v hv => by rw [H i (S ▸ hi)] at hv; cases hv; exact hfit i (S ▸ hi)
  obtain ⟨T', h', X', e', ex, A', E', st⟩ := cloneA X hx hZ hown w1 w2 w3 w4 w5 w6 eT A E FC hg hsize hst hd hf hW hl (cap := cap) (by rw [S]; exact hcap) hc hsl
  exact ⟨T', h', X', e', ex, ⟨cloneOf cl, A', S, H⟩, E', st⟩
end OwnArr
theorem own_nat {i : Nat} (hi : i < 2 ^ 31) : (Int32.ofNat i).toNatClampNeg = i ∧ ¬ Int32.ofNat i < 0 ∧ (Int32.ofNat i).toInt = i := by
  have q : (Int32.ofNat i).toInt = i := Int32.toInt_ofNat_of_lt hi
  have z : (0 : Int32).toInt = 0 := by decide
  refine ⟨by rw [Int32.toNatClampNeg, q]; simp, ?_, q⟩
  rw [Int32.lt_iff_toInt_lt, q, z]; omega
theorem own_lt {i n : Nat} (hi : i < 2 ^ 31) (hn : n < 2 ^ 31) : Int32.ofNat i < Int32.ofNat n ↔ i < n := by
  rw [Int32.lt_iff_toInt_lt, (own_nat hi).2.2, (own_nat hn).2.2]; omega
theorem own_up (i : Nat) : Int32.ofNat i + (1 : Int32) = Int32.ofNat (i + 1) := (Int32.ofNat_add i 1).symm
/-- a static stands where none of the written cells holds statics -/
theorem own_sta_keep {h' : Heap} {C n d : String} {v : Value} {ws : List Addr} (F : Sta Z h C n d v) (K : Keep h h' ws) (q : ∀ w ∈ ws, ∃ c : Cell, h[w]? = some c ∧ c.vm.isStatics = false) : Sta Z h' C n d v := by
  obtain ⟨cf, i, k, f, st, cell, h1, h2, h3, h4, h5, h6, h7⟩ := F
  refine ⟨cf, i, k, f, st, cell, h1, h2, h3, h4, K.2.1 st cell h5 (fun z => ?_), h6, h7⟩
  obtain ⟨c, e1, e2⟩ := q st z
  rw [h5] at e1; cases e1
  rw [h6] at e2; cases e2
theorem own_pl_exa {a : Addr} {C : String} (E : Exa Z h a C) : ∃ c : Cell, h[a]? = some c ∧ c.vm.isStatics = false := by obtain ⟨c, k, h1, -, -, h4, -⟩ := E; exact ⟨c, h1, h4⟩
theorem own_pl_arr {a : Addr} {ty : FieldType} {n : Nat} {f : Nat → Value} (F : OAr Z h a ty n f) : ∃ c : Cell, h[a]? = some c ∧ c.vm.isStatics = false := by obtain ⟨c, A, -⟩ := F; exact ⟨c, A.1, A.plain⟩
theorem own_shr0 (x : Int32) : x >>> ((0 : Int32) &&& 31) = x := Int32.toInt_inj.mp (by rw [c_ishr x 0 0 (by decide)]; simp)
abbrev OLawQ (n0 : Nat) : Option Value → Heap → List Loc → Prop := fun v _ L => v = some (.int (1 : Int32)) ∧ Fr n0 L
/-- a boolean as the machine's int -/
def OB (b : Bool) : Int32 := if b then 1 else 0
theorem own_b1 : nar .boolean (1 : Int32) = 1 := by decide
theorem own_b0 : nar .boolean (0 : Int32) = 0 := by decide
theorem own_nb (b : Bool) : nar .boolean (OB b) = OB b := by cases b <;> decide
end OwnKit
/-- a char's byte in a Latin-1 string -/
def own_lb (x : Int32) : Int32 := nar .byte x.toInt8.toInt32
def own_lbs (f : Nat → Int32) (g : Nat → Value) (k j : Nat) : Value := if j < k then .int (own_lb (f j)) else g j
theorem own_lbs0 (f : Nat → Int32) (g : Nat → Value) (n : Nat) : ∀ j, j < n → g j = own_lbs f g 0 j := fun j _ => by simp [own_lbs]
theorem own_lbsS (f : Nat → Int32) (g : Nat → Value) (n i : Nat) (hi : i < 2 ^ 31) : ∀ j, j < n → (if j = (Int32.ofNat i).toNatClampNeg then Value.int (nar .byte (f i).toInt8.toInt32) else own_lbs f g i j) = own_lbs f g (i + 1) j := fun j _ => by
  rw [(own_nat hi).1]
  by_cases q : j = i
  · subst q; simp [own_lbs, own_lb]
  · have e : (j < i + 1) ↔ (j < i) := by omega
    simp [own_lbs, q, e]
theorem own_lbsN (f : Nat → Int32) (g : Nat → Value) (n : Nat) : ∀ j, j < n → own_lbs f g n j = .int (own_lb (f j)) := fun j hj => by simp [own_lbs, hj]
theorem own_st6 {z0 z1 z2 z3 z4 z5 : Value} {s6 : Slot} {v : Int32} (h : One s6) : storeLocals #[.val z0, .val z1, .val z2, .val z3, .val z4, .val z5, s6] 6 (.int v) = some #[.val z0, .val z1, .val z2, .val z3, .val z4, .val z5, .val (.int v)] := by
  rcases h with rfl | ⟨w, rfl, hw⟩
  · rfl
  · cases w <;> first | rfl | (simp [Value.category] at hw)
theorem d6_0 : decode jdk_52_method_21_code 0 = .ok (.iconst 0, 1) := by decide +kernel
theorem d6_1 : decode jdk_52_method_21_code 1 = .ok (.istore 5, 2) := by decide +kernel
theorem d6_3 : decode jdk_52_method_21_code 3 = .ok (.iload 5, 2) := by decide +kernel
theorem d6_5 : decode jdk_52_method_21_code 5 = .ok (.iload 4, 2) := by decide +kernel
theorem d6_7 : decode jdk_52_method_21_code 7 = .ok (.if_icmp .ge 37, 3) := by decide +kernel
theorem d6_44 : decode jdk_52_method_21_code 44 = .ok (.iload 4, 2) := by decide +kernel
theorem d6_46 : decode jdk_52_method_21_code 46 = .ok (.ireturn, 1) := by decide +kernel
theorem d6_10 : decode jdk_52_method_21_code 10 = .ok (.aload_n 0, 1) := by decide +kernel
theorem d6_11 : decode jdk_52_method_21_code 11 = .ok (.iload_n 1, 1) := by decide +kernel
theorem d6_12 : decode jdk_52_method_21_code 12 = .ok (.caload, 1) := by decide +kernel
theorem d6_13 : decode jdk_52_method_21_code 13 = .ok (.istore 6, 2) := by decide +kernel
theorem d6_15 : decode jdk_52_method_21_code 15 = .ok (.iload 6, 2) := by decide +kernel
theorem d6_17 : decode jdk_52_method_21_code 17 = .ok (.sipush 255, 3) := by decide +kernel
theorem d6_20 : decode jdk_52_method_21_code 20 = .ok (.if_icmp .le 6, 3) := by decide +kernel
theorem d6_26 : decode jdk_52_method_21_code 26 = .ok (.aload_n 2, 1) := by decide +kernel
theorem d6_27 : decode jdk_52_method_21_code 27 = .ok (.iload_n 3, 1) := by decide +kernel
theorem d6_28 : decode jdk_52_method_21_code 28 = .ok (.iload 6, 2) := by decide +kernel
theorem d6_30 : decode jdk_52_method_21_code 30 = .ok (.i2b, 1) := by decide +kernel
theorem d6_31 : decode jdk_52_method_21_code 31 = .ok (.bastore, 1) := by decide +kernel
theorem d6_32 : decode jdk_52_method_21_code 32 = .ok (.iinc 1 1, 3) := by decide +kernel
theorem d6_35 : decode jdk_52_method_21_code 35 = .ok (.iinc 3 1, 3) := by decide +kernel
theorem d6_38 : decode jdk_52_method_21_code 38 = .ok (.iinc 5 1, 3) := by decide +kernel
theorem d6_41 : decode jdk_52_method_21_code 41 = .ok (.goto (-38), 3) := by decide +kernel
theorem pn_java_lang_StringUTF16 : plainName "java/lang/StringUTF16" = true := by first | (simp [plainName, overriddenIn]; done) | decide +kernel
theorem ef_6_RIRII (m : MethodId) (x0 : Addr) (x1 : Int32) (x2 : Addr) (x3 : Int32) (x4 : Int32) : entryFrame m #[(.ref x0), (.int x1), (.ref x2), (.int x3), (.int x4)] 7 = mkF m 0 #[.val (.ref x0), .val (.int x1), .val (.ref x2), .val (.int x3), .val (.int x4), .unset, .unset] [] := by first | (simp [entryFrame, mkF, argsToLocals, Value.category]; done) | rfl
set_option maxRecDepth 65536 in
set_option maxHeartbeats 40000000 in
theorem sc1 (l : Launch) (Z : State) (a0 : Array Value) (hw : ∀ d ∈ tables_1, d.before a0 Z = true) (a1 : Addr) (a2 : Addr) (n : Nat) (cf : Nat → Int32) (gf : Nat → Value) (h0 : Heap) (n0 : Nat) (Z0 : n0 ≤ h0.size) (old_a2 : n0 ≤ a2) (ne_a1_a2 : a1 ≠ a2) (A_a1 : OAr Z h0 a1 .char n (fun j => .int (cf j))) (A_a2 : OAr Z h0 a2 .byte n gf) (hn : n < 2 ^ 31) (hc : ∀ j, j < n → ¬ (255 : Int32) < cf j) :
    OMet l Z (⟨"java/lang/StringUTF16", "compress", "([CI[BII)I"⟩ : MethodName) jdk_52_method_21_code 7 (some .int) [] ({ frames := 0, cells := 0, slots := 0, locals := 0 } : Room) #[(.ref a1), (.int (0 : Int32)), (.ref a2), (.int (0 : Int32)), (.int (Int32.ofNat n))] h0 (fun v h' L => v = some (.int (Int32.ofNat n)) ∧ Fr n0 L ∧ Keep h0 h' [a2] ∧ OAr Z h' a2 .byte n (fun j => .int (own_lb (cf j)))) := by
  refine own_body (plainFor_of_name pn_java_lang_StringUTF16) (fun m => ef_6_RIRII m a1 (0 : Int32) a2 (0 : Int32) (Int32.ofNat n)) ?_
  intro p e s m below meth c T0 hx hby hml hown hnm hret hlk hZ X0 e0
  have hown : s.vm.findClass "java/lang/StringUTF16" = some m.cls := hown
  have hml : c.maxLocals = 7 := hml
  have N0 := Fr.nil n0
  have K0 := Keep.refl h0 [a2]
  show OGo p e below s _ _ (T0.setTop (mkF m 0 #[.val (.ref a1), .val (.int (0 : Int32)), .val (.ref a2), .val (.int (0 : Int32)), .val (.int (Int32.ofNat n)), .unset, .unset] []))
  refine own_st (fun t k => XS.iconst X0.here hx rfl (hb hby d6_0) k) ?_
  show OGo p e below s _ _ (T0.setTop (mkF m 1 #[.val (.ref a1), .val (.int (0 : Int32)), .val (.ref a2), .val (.int (0 : Int32)), .val (.int (Int32.ofNat n)), .unset, .unset] [(.int (0 : Int32))]))
  refine own_st (fun t k => XS.istore X0.here hx rfl (hb hby d6_1) rfl (l' := #[.val (.ref a1), .val (.int (0 : Int32)), .val (.ref a2), .val (.int (0 : Int32)), .val (.int (Int32.ofNat n)), .val (.int (0 : Int32)), .unset]) rfl k) ?_
  show OGo p e below s _ _ (T0.setTop (mkF m 3 #[.val (.ref a1), .val (.int (0 : Int32)), .val (.ref a2), .val (.int (0 : Int32)), .val (.int (Int32.ofNat n)), .val (.int (0 : Int32)), .unset] []))
  have A_a2 := A_a2.cong (own_lbs0 cf gf n)
  have loop : ∀ (k i : Nat) (TL : State) (LL : List Loc) (hL : Heap) (s6 : Slot), i + k = n → One s6 → Stand p l e ({ frames := 0, cells := 0, slots := 0, locals := 0 } : Room) s m #[(.ref a1), (.int (0 : Int32)), (.ref a2), (.int (0 : Int32)), (.int (Int32.ofNat n))] below meth c TL LL 0 0 → TL.heap = hL → Fr n0 LL → n0 ≤ hL.size → Keep h0 hL [a2] → OAr Z hL a1 .char n (fun j => .int (cf j)) → OAr Z hL a2 .byte n (own_lbs cf gf i) → OGo p e below s ({ frames := 0, cells := 0, slots := 0, locals := 0 } : Room) (fun v h' L => v = some (.int (Int32.ofNat n)) ∧ Fr n0 L ∧ Keep h0 h' [a2] ∧ OAr Z h' a2 .byte n (fun j => .int (own_lb (cf j)))) (TL.setTop (mkF m 3 #[.val (.ref a1), .val (.int (Int32.ofNat i)), .val (.ref a2), .val (.int (Int32.ofNat i)), .val (.int (Int32.ofNat n)), .val (.int (Int32.ofNat i)), s6] [])) := by
    intro k
    induction k with
    | zero =>
      intro i TL LL hL s6 hi hs6 XL eL NL Z0 K0 A_a1 A_a2
      obtain rfl : n = i := by omega
      show OGo p e below s _ _ (TL.setTop (mkF m 3 #[.val (.ref a1), .val (.int (Int32.ofNat n)), .val (.ref a2), .val (.int (Int32.ofNat n)), .val (.int (Int32.ofNat n)), .val (.int (Int32.ofNat n)), s6] []))
      refine own_st (fun t k => XS.iload XL.here hx rfl (hb hby d6_3) rfl k) ?_
      show OGo p e below s _ _ (TL.setTop (mkF m 5 #[.val (.ref a1), .val (.int (Int32.ofNat n)), .val (.ref a2), .val (.int (Int32.ofNat n)), .val (.int (Int32.ofNat n)), .val (.int (Int32.ofNat n)), s6] [(.int (Int32.ofNat n))]))
      refine own_st (fun t k => XS.iload XL.here hx rfl (hb hby d6_5) rfl k) ?_
      show OGo p e below s _ _ (TL.setTop (mkF m 7 #[.val (.ref a1), .val (.int (Int32.ofNat n)), .val (.ref a2), .val (.int (Int32.ofNat n)), .val (.int (Int32.ofNat n)), .val (.int (Int32.ofNat n)), s6] [(.int (Int32.ofNat n)), (.int (Int32.ofNat n))]))
      refine own_st (fun t k => XS.icmpYes XL.here hx rfl (pc0 := 7) (pc' := 44) rfl (hb hby d6_7) rfl (flt ((fun q => absurd ((own_lt hn hn).mp q) (Nat.lt_irrefl _)))).2.1 (by decide) (by decide) k) ?_
      show OGo p e below s _ _ (TL.setTop (mkF m 44 #[.val (.ref a1), .val (.int (Int32.ofNat n)), .val (.ref a2), .val (.int (Int32.ofNat n)), .val (.int (Int32.ofNat n)), .val (.int (Int32.ofNat n)), s6] []))
      refine own_st (fun t k => XS.iload XL.here hx rfl (hb hby d6_44) rfl k) ?_
      show OGo p e below s _ _ (TL.setTop (mkF m 46 #[.val (.ref a1), .val (.int (Int32.ofNat n)), .val (.ref a2), .val (.int (Int32.ofNat n)), .val (.int (Int32.ofNat n)), .val (.int (Int32.ofNat n)), s6] [(.int (Int32.ofNat n))]))
      have A_a2 := A_a2.cong (own_lbsN cf gf n)
      exact own_retI XL hx hlk hret (hb hby d6_46) (by decide) (by decide) (⟨rfl, NL, (by rw [eL]; exact K0), (by rw [eL]; exact A_a2)⟩)
    | succ k ih =>
      intro i TL LL hL s6 hi hs6 XL eL NL Z0 K0 A_a1 A_a2
      show OGo p e below s _ _ (TL.setTop (mkF m 3 #[.val (.ref a1), .val (.int (Int32.ofNat i)), .val (.ref a2), .val (.int (Int32.ofNat i)), .val (.int (Int32.ofNat n)), .val (.int (Int32.ofNat i)), s6] []))
      refine own_st (fun t k => XS.iload XL.here hx rfl (hb hby d6_3) rfl k) ?_
      show OGo p e below s _ _ (TL.setTop (mkF m 5 #[.val (.ref a1), .val (.int (Int32.ofNat i)), .val (.ref a2), .val (.int (Int32.ofNat i)), .val (.int (Int32.ofNat n)), .val (.int (Int32.ofNat i)), s6] [(.int (Int32.ofNat i))]))
      refine own_st (fun t k => XS.iload XL.here hx rfl (hb hby d6_5) rfl k) ?_
      show OGo p e below s _ _ (TL.setTop (mkF m 7 #[.val (.ref a1), .val (.int (Int32.ofNat i)), .val (.ref a2), .val (.int (Int32.ofNat i)), .val (.int (Int32.ofNat n)), .val (.int (Int32.ofNat i)), s6] [(.int (Int32.ofNat n)), (.int (Int32.ofNat i))]))
      refine own_st (fun t k => XS.icmpNo XL.here hx rfl (hb hby d6_7) rfl (tlt (((own_lt (by omega) hn).mpr (by omega)))).2.1 k) ?_
      show OGo p e below s _ _ (TL.setTop (mkF m 10 #[.val (.ref a1), .val (.int (Int32.ofNat i)), .val (.ref a2), .val (.int (Int32.ofNat i)), .val (.int (Int32.ofNat n)), .val (.int (Int32.ofNat i)), s6] []))
      refine own_st (fun t k => XS.aloadN XL.here hx rfl (hb hby d6_10) rfl rfl k) ?_
      show OGo p e below s _ _ (TL.setTop (mkF m 11 #[.val (.ref a1), .val (.int (Int32.ofNat i)), .val (.ref a2), .val (.int (Int32.ofNat i)), .val (.int (Int32.ofNat n)), .val (.int (Int32.ofNat i)), s6] [(.ref a1)]))
      refine own_st (fun t k => XS.iloadN XL.here hx rfl (hb hby d6_11) rfl k) ?_
      show OGo p e below s _ _ (TL.setTop (mkF m 12 #[.val (.ref a1), .val (.int (Int32.ofNat i)), .val (.ref a2), .val (.int (Int32.ofNat i)), .val (.int (Int32.ofNat n)), .val (.int (Int32.ofNat i)), s6] [(.int (Int32.ofNat i)), (.ref a1)]))
      obtain ⟨cl1, Ar1, Sz1, Hh1⟩ := id A_a1
      have hin1 := own_in (i := (Int32.ofNat i)) Sz1 (own_nat (by omega)).2.1 (by rw [(own_nat (by omega)).1]; omega)
      refine own_st (XL.caload hx (j := (Int32.ofNat i)) (v := (.int (cf i))) (by rw [eL]; exact Ar1.1) (State.isArrayOf_alike hZ.alike Ar1.2.1) Ar1.2.2 hin1 ((Hh1 _ (by rw [(own_nat (by omega)).1]; omega)).trans (congrArg some (by rw [(own_nat (by omega)).1]))) (g := (mkF m 12 #[.val (.ref a1), .val (.int (Int32.ofNat i)), .val (.ref a2), .val (.int (Int32.ofNat i)), .val (.int (Int32.ofNat n)), .val (.int (Int32.ofNat i)), s6] [(.int (Int32.ofNat i)), (.ref a1)])) rfl rfl (hb hby d6_12)) ?_
      show OGo p e below s _ _ (TL.setTop (mkF m 13 #[.val (.ref a1), .val (.int (Int32.ofNat i)), .val (.ref a2), .val (.int (Int32.ofNat i)), .val (.int (Int32.ofNat n)), .val (.int (Int32.ofNat i)), s6] [(.int (cf i))]))
      refine own_st (fun t k => XS.istore XL.here hx rfl (hb hby d6_13) rfl (l' := #[.val (.ref a1), .val (.int (Int32.ofNat i)), .val (.ref a2), .val (.int (Int32.ofNat i)), .val (.int (Int32.ofNat n)), .val (.int (Int32.ofNat i)), .val (.int (cf i))]) (own_st6 hs6) k) ?_
      show OGo p e below s _ _ (TL.setTop (mkF m 15 #[.val (.ref a1), .val (.int (Int32.ofNat i)), .val (.ref a2), .val (.int (Int32.ofNat i)), .val (.int (Int32.ofNat n)), .val (.int (Int32.ofNat i)), .val (.int (cf i))] []))
      refine own_st (fun t k => XS.iload XL.here hx rfl (hb hby d6_15) rfl k) ?_
      show OGo p e below s _ _ (TL.setTop (mkF m 17 #[.val (.ref a1), .val (.int (Int32.ofNat i)), .val (.ref a2), .val (.int (Int32.ofNat i)), .val (.int (Int32.ofNat n)), .val (.int (Int32.ofNat i)), .val (.int (cf i))] [(.int (cf i))]))
      refine own_st (fun t k => XS.sipush XL.here hx rfl (hb hby d6_17) k) ?_
      show OGo p e below s _ _ (TL.setTop (mkF m 20 #[.val (.ref a1), .val (.int (Int32.ofNat i)), .val (.ref a2), .val (.int (Int32.ofNat i)), .val (.int (Int32.ofNat n)), .val (.int (Int32.ofNat i)), .val (.int (cf i))] [(.int (255 : Int32)), (.int (cf i))]))
      refine own_st (fun t k => XS.icmpYes XL.here hx rfl (pc0 := 20) (pc' := 26) rfl (hb hby d6_20) rfl (flt ((hc i (by omega)))).2.2.2 (by decide) (by decide) k) ?_
      show OGo p e below s _ _ (TL.setTop (mkF m 26 #[.val (.ref a1), .val (.int (Int32.ofNat i)), .val (.ref a2), .val (.int (Int32.ofNat i)), .val (.int (Int32.ofNat n)), .val (.int (Int32.ofNat i)), .val (.int (cf i))] []))
      refine own_st (fun t k => XS.aloadN XL.here hx rfl (hb hby d6_26) rfl rfl k) ?_
      show OGo p e below s _ _ (TL.setTop (mkF m 27 #[.val (.ref a1), .val (.int (Int32.ofNat i)), .val (.ref a2), .val (.int (Int32.ofNat i)), .val (.int (Int32.ofNat n)), .val (.int (Int32.ofNat i)), .val (.int (cf i))] [(.ref a2)]))
      refine own_st (fun t k => XS.iloadN XL.here hx rfl (hb hby d6_27) rfl k) ?_
      show OGo p e below s _ _ (TL.setTop (mkF m 28 #[.val (.ref a1), .val (.int (Int32.ofNat i)), .val (.ref a2), .val (.int (Int32.ofNat i)), .val (.int (Int32.ofNat n)), .val (.int (Int32.ofNat i)), .val (.int (cf i))] [(.int (Int32.ofNat i)), (.ref a2)]))
      refine own_st (fun t k => XS.iload XL.here hx rfl (hb hby d6_28) rfl k) ?_
      show OGo p e below s _ _ (TL.setTop (mkF m 30 #[.val (.ref a1), .val (.int (Int32.ofNat i)), .val (.ref a2), .val (.int (Int32.ofNat i)), .val (.int (Int32.ofNat n)), .val (.int (Int32.ofNat i)), .val (.int (cf i))] [(.int (cf i)), (.int (Int32.ofNat i)), (.ref a2)]))
      refine own_st (fun t k => XS.i2b XL.here hx rfl (hb hby d6_30) rfl k) ?_
      show OGo p e below s _ _ (TL.setTop (mkF m 31 #[.val (.ref a1), .val (.int (Int32.ofNat i)), .val (.ref a2), .val (.int (Int32.ofNat i)), .val (.int (Int32.ofNat n)), .val (.int (Int32.ofNat i)), .val (.int (cf i))] [(.int (cf i).toInt8.toInt32), (.int (Int32.ofNat i)), (.ref a2)]))
      obtain ⟨cl2, Ar2, Sz2, Hh2⟩ := id A_a2
      obtain ⟨T2, hp2, X2, e2, Ww2, st2⟩ := stB XL hx hZ eL Ar2 (j := (Int32.ofNat i)) (own_in Sz2 (own_nat (by omega)).2.1 (by rw [(own_nat (by omega)).1]; omega)) (g := (mkF m 31 #[.val (.ref a1), .val (.int (Int32.ofNat i)), .val (.ref a2), .val (.int (Int32.ofNat i)), .val (.int (Int32.ofNat n)), .val (.int (Int32.ofNat i)), .val (.int (cf i))] [(.int (cf i).toInt8.toInt32), (.int (Int32.ofNat i)), (.ref a2)])) rfl rfl (hb hby d6_31)
      have Nf2 := Fr.snoc X2 NL old_a2
      have Z0 := Nat.le_trans Z0 (Keep.of_wr Ww2).1
      have K0 := K0.wr Ww2 (Or.inl (List.mem_of_getElem? (i := 0) rfl))
      have A_a1 := A_a1.other Ww2 ne_a1_a2
      have A_a2 := OAr.set Ar2 Sz2 Hh2 Ww2
      refine own_st st2 ?_
      show OGo p e below s _ _ (T2.setTop (mkF m 32 #[.val (.ref a1), .val (.int (Int32.ofNat i)), .val (.ref a2), .val (.int (Int32.ofNat i)), .val (.int (Int32.ofNat n)), .val (.int (Int32.ofNat i)), .val (.int (cf i))] []))
      have A_a2 := A_a2.cong (own_lbsS cf gf n i (by omega))
      refine own_st (fun t k => XS.iinc X2.here hx rfl (hb hby d6_32) rfl (l' := #[.val (.ref a1), .val (.int ((Int32.ofNat i) + (1 : Int32))), .val (.ref a2), .val (.int (Int32.ofNat i)), .val (.int (Int32.ofNat n)), .val (.int (Int32.ofNat i)), .val (.int (cf i))]) rfl k) ?_
      show OGo p e below s _ _ (T2.setTop (mkF m 35 #[.val (.ref a1), .val (.int ((Int32.ofNat i) + (1 : Int32))), .val (.ref a2), .val (.int (Int32.ofNat i)), .val (.int (Int32.ofNat n)), .val (.int (Int32.ofNat i)), .val (.int (cf i))] []))
      refine own_st (fun t k => XS.iinc X2.here hx rfl (hb hby d6_35) rfl (l' := #[.val (.ref a1), .val (.int ((Int32.ofNat i) + (1 : Int32))), .val (.ref a2), .val (.int ((Int32.ofNat i) + (1 : Int32))), .val (.int (Int32.ofNat n)), .val (.int (Int32.ofNat i)), .val (.int (cf i))]) rfl k) ?_
      show OGo p e below s _ _ (T2.setTop (mkF m 38 #[.val (.ref a1), .val (.int ((Int32.ofNat i) + (1 : Int32))), .val (.ref a2), .val (.int ((Int32.ofNat i) + (1 : Int32))), .val (.int (Int32.ofNat n)), .val (.int (Int32.ofNat i)), .val (.int (cf i))] []))
      refine own_st (fun t k => XS.iinc X2.here hx rfl (hb hby d6_38) rfl (l' := #[.val (.ref a1), .val (.int ((Int32.ofNat i) + (1 : Int32))), .val (.ref a2), .val (.int ((Int32.ofNat i) + (1 : Int32))), .val (.int (Int32.ofNat n)), .val (.int ((Int32.ofNat i) + (1 : Int32))), .val (.int (cf i))]) rfl k) ?_
      show OGo p e below s _ _ (T2.setTop (mkF m 41 #[.val (.ref a1), .val (.int ((Int32.ofNat i) + (1 : Int32))), .val (.ref a2), .val (.int ((Int32.ofNat i) + (1 : Int32))), .val (.int (Int32.ofNat n)), .val (.int ((Int32.ofNat i) + (1 : Int32))), .val (.int (cf i))] []))
      refine own_st (fun t k => XS.goto X2.here hx rfl (pc0 := 41) (pc' := 3) rfl (hb hby d6_41) (by decide) (by decide) k) ?_
      show OGo p e below s _ _ (T2.setTop (mkF m 3 #[.val (.ref a1), .val (.int ((Int32.ofNat i) + (1 : Int32))), .val (.ref a2), .val (.int ((Int32.ofNat i) + (1 : Int32))), .val (.int (Int32.ofNat n)), .val (.int ((Int32.ofNat i) + (1 : Int32))), .val (.int (cf i))] []))
      rw [own_up]
      exact ih (i + 1) T2 _ hp2 _ (by omega) (One.val rfl) X2 e2 Nf2 Z0 K0 A_a1 A_a2
  exact loop n 0 _ _ _ _ (by omega) One.u X0 e0 N0 Z0 K0 A_a1 A_a2
theorem d5_0 : decode jdk_52_method_16_code 0 = .ok (.iload_n 2, 1) := by decide +kernel
theorem d5_1 : decode jdk_52_method_16_code 1 = .ok (.newarray .byte, 2) := by decide +kernel
theorem d5_3 : decode jdk_52_method_16_code 3 = .ok (.astore_n 3, 1) := by decide +kernel
theorem d5_4 : decode jdk_52_method_16_code 4 = .ok (.aload_n 0, 1) := by decide +kernel
theorem d5_5 : decode jdk_52_method_16_code 5 = .ok (.iload_n 1, 1) := by decide +kernel
theorem d5_6 : decode jdk_52_method_16_code 6 = .ok (.aload_n 3, 1) := by decide +kernel
theorem d5_7 : decode jdk_52_method_16_code 7 = .ok (.iconst 0, 1) := by decide +kernel
theorem d5_8 : decode jdk_52_method_16_code 8 = .ok (.iload_n 2, 1) := by decide +kernel
theorem d5_9 : decode jdk_52_method_16_code 9 = .ok (.invokestatic 115, 3) := by decide +kernel
theorem pd_0 : parseMethodDescriptor "([CI[BII)I" = some ⟨[(.array .char), .int, (.array .byte), .int, .int], some .int⟩ := by decide +kernel
theorem d5_12 : decode jdk_52_method_16_code 12 = .ok (.istore 4, 2) := by decide +kernel
theorem d5_14 : decode jdk_52_method_16_code 14 = .ok (.iload 4, 2) := by decide +kernel
theorem d5_16 : decode jdk_52_method_16_code 16 = .ok (.iload_n 2, 1) := by decide +kernel
theorem d5_17 : decode jdk_52_method_16_code 17 = .ok (.if_icmp .eq 40, 3) := by decide +kernel
theorem d5_57 : decode jdk_52_method_16_code 57 = .ok (.aload_n 3, 1) := by decide +kernel
theorem d5_58 : decode jdk_52_method_16_code 58 = .ok (.areturn, 1) := by decide +kernel
theorem ef_5_RII (m : MethodId) (x0 : Addr) (x1 : Int32) (x2 : Int32) : entryFrame m #[(.ref x0), (.int x1), (.int x2)] 6 = mkF m 0 #[.val (.ref x0), .val (.int x1), .val (.int x2), .unset, .unset, .unset] [] := by first | (simp [entryFrame, mkF, argsToLocals, Value.category]; done) | rfl
set_option maxRecDepth 65536 in
set_option maxHeartbeats 40000000 in
theorem sc2 (l : Launch) (Z : State) (a0 : Array Value) (hw : ∀ d ∈ tables_1, d.before a0 Z = true) (a1 : Addr) (n : Nat) (cf : Nat → Int32) (h0 : Heap) (n0 : Nat) (Z0 : n0 ≤ h0.size) (A_a1 : OAr Z h0 a1 .char n (fun j => .int (cf j))) (hn : n ≤ 2) (h1 : 0 < n) (hc : ∀ j, j < n → ¬ (255 : Int32) < cf j) :
    OMet l Z (⟨"java/lang/StringUTF16", "compress", "([CII)[B"⟩ : MethodName) jdk_52_method_16_code 6 (some (.array .byte)) [] ({ frames := 1, cells := 1, slots := 2, locals := 18 } : Room) #[(.ref a1), (.int (0 : Int32)), (.int (Int32.ofNat n))] h0 (fun v h' L => ∃ t1 : Addr, v = some (.ref t1) ∧ Fr n0 L ∧ Keep h0 h' [] ∧ h0.size ≤ t1 ∧ OAr Z h' t1 .byte n (fun j => .int (own_lb (cf j)))) := by
  refine own_body (plainFor_of_name pn_java_lang_StringUTF16) (fun m => ef_5_RII m a1 (0 : Int32) (Int32.ofNat n)) ?_
  intro p e s m below meth c T0 hx hby hml hown hnm hret hlk hZ X0 e0
  have hown : s.vm.findClass "java/lang/StringUTF16" = some m.cls := hown
  have hml : c.maxLocals = 6 := hml
  have N0 := Fr.nil n0
  have K0 := Keep.refl h0 []
  show OGo p e below s _ _ (T0.setTop (mkF m 0 #[.val (.ref a1), .val (.int (0 : Int32)), .val (.int (Int32.ofNat n)), .unset, .unset, .unset] []))
  refine own_st (fun t k => XS.iloadN X0.here hx rfl (hb hby d5_0) rfl k) ?_
  show OGo p e below s _ _ (T0.setTop (mkF m 1 #[.val (.ref a1), .val (.int (0 : Int32)), .val (.int (Int32.ofNat n)), .unset, .unset, .unset] [(.int (Int32.ofNat n))]))
  obtain ⟨T3, hp3, kk3, X3, e3, Ex3, Aa3, st3⟩ := newP X0 hx hZ (hw _ (List.mem_of_getElem? (i := 27) rfl)) e0 (g := (mkF m 1 #[.val (.ref a1), .val (.int (0 : Int32)), .val (.int (Int32.ofNat n)), .unset, .unset, .unset] [(.int (Int32.ofNat n))])) rfl (hb hby d5_1) rfl (own_nat (i := n) (by omega)).2.1 (cap := 2) (by rw [(own_nat (i := n) (by omega)).1]; exact hn) (by decide) (by decide) (by decide)
  obtain ⟨t1, gs3⟩ : ∃ z, z = h0.size := ⟨_, rfl⟩
  rw [← gs3] at Aa3 st3
  have ne_a1_t1 : a1 ≠ t1 := Nat.ne_of_lt (Nat.lt_of_lt_of_le A_a1.lt (Nat.le_of_eq gs3.symm))
  have old_t1 : n0 ≤ t1 := Nat.le_trans Z0 (Nat.le_of_eq gs3.symm)
  have fr_t1 : h0.size ≤ t1 := Nat.le_trans K0.1 (Nat.le_of_eq gs3.symm)
  have K0 := K0.ext Ex3
  have Z0 := Nat.le_trans Z0 Ex3.1
  have A_a1 := A_a1.ext Ex3
  have A_t1 := OAr.new Aa3
  refine own_st st3 ?_
  show OGo p e below s _ _ (T3.setTop (mkF m 3 #[.val (.ref a1), .val (.int (0 : Int32)), .val (.int (Int32.ofNat n)), .unset, .unset, .unset] [(.ref t1)]))
  rw [(own_nat (i := n) (by omega)).1] at A_t1
  refine own_st (fun t k => XS.astoreN X3.here hx rfl (hb hby d5_3) rfl rfl (l' := #[.val (.ref a1), .val (.int (0 : Int32)), .val (.int (Int32.ofNat n)), .val (.ref t1), .unset, .unset]) rfl k) ?_
  show OGo p e below s _ _ (T3.setTop (mkF m 4 #[.val (.ref a1), .val (.int (0 : Int32)), .val (.int (Int32.ofNat n)), .val (.ref t1), .unset, .unset] []))
  refine own_st (fun t k => XS.aloadN X3.here hx rfl (hb hby d5_4) rfl rfl k) ?_
  show OGo p e below s _ _ (T3.setTop (mkF m 5 #[.val (.ref a1), .val (.int (0 : Int32)), .val (.int (Int32.ofNat n)), .val (.ref t1), .unset, .unset] [(.ref a1)]))
  refine own_st (fun t k => XS.iloadN X3.here hx rfl (hb hby d5_5) rfl k) ?_
  show OGo p e below s _ _ (T3.setTop (mkF m 6 #[.val (.ref a1), .val (.int (0 : Int32)), .val (.int (Int32.ofNat n)), .val (.ref t1), .unset, .unset] [(.int (0 : Int32)), (.ref a1)]))
  refine own_st (fun t k => XS.aloadN X3.here hx rfl (hb hby d5_6) rfl rfl k) ?_
  show OGo p e below s _ _ (T3.setTop (mkF m 7 #[.val (.ref a1), .val (.int (0 : Int32)), .val (.int (Int32.ofNat n)), .val (.ref t1), .unset, .unset] [(.ref t1), (.int (0 : Int32)), (.ref a1)]))
  refine own_st (fun t k => XS.iconst X3.here hx rfl (hb hby d5_7) k) ?_
  show OGo p e below s _ _ (T3.setTop (mkF m 8 #[.val (.ref a1), .val (.int (0 : Int32)), .val (.int (Int32.ofNat n)), .val (.ref t1), .unset, .unset] [(.int (0 : Int32)), (.ref t1), (.int (0 : Int32)), (.ref a1)]))
  refine own_st (fun t k => XS.iloadN X3.here hx rfl (hb hby d5_8) rfl k) ?_
  show OGo p e below s _ _ (T3.setTop (mkF m 9 #[.val (.ref a1), .val (.int (0 : Int32)), .val (.int (Int32.ofNat n)), .val (.ref t1), .unset, .unset] [(.int (Int32.ofNat n)), (.int (0 : Int32)), (.ref t1), (.int (0 : Int32)), (.ref a1)]))
  obtain ⟨_, T4, Lc4, X4, hQ4, st4⟩ := own_callS X3 hx hZ (y := (⟨"java/lang/StringUTF16", "compress", "([CI[BII)I"⟩ : MethodName)) (W := 0) hown (hw _ (List.mem_of_getElem? (i := 28) rfl)) (hw _ (List.mem_of_getElem? (i := 29) rfl)) (hw _ (List.mem_of_getElem? (i := 25) rfl)) (hw _ (List.mem_of_getElem? (i := 30) rfl)) (by decide) (sc1 l Z a0 hw a1 t1 n cf (fun _ => defaultValue .byte) hp3 n0 Z0 old_t1 ne_a1_t1 A_a1 A_t1 (by omega) hc) (by decide) (by decide) (g := (mkF m 9 #[.val (.ref a1), .val (.int (0 : Int32)), .val (.int (Int32.ofNat n)), .val (.ref t1), .unset, .unset] [(.int (Int32.ofNat n)), (.int (0 : Int32)), (.ref t1), (.int (0 : Int32)), (.ref a1)])) rfl (by rw [hml]; rfl) (argsL := [(.ref a1), (.int (0 : Int32)), (.ref t1), (.int (0 : Int32)), (.int (Int32.ofNat n))]) (rest := []) (lenOf pd_0 rfl) rfl (by show 2 * 0 + _ ≤ _; exact Nat.le_of_eq rfl) (hb hby d5_9) rfl e3 (by decide) (by decide)
  obtain ⟨rfl, Nq4, Kq4, q4_0⟩ := hQ4
  have Z0 := Nat.le_trans Z0 Kq4.1
  have K0 := K0.trans Kq4 (allS (Or.inr fr_t1) all0)
  have A_a1 := A_a1.keep Kq4 (ninS ne_a1_t1 nin0)
  have Nr4 := Fr.app N0 Nq4
  have A_t1 := q4_0
  refine own_st st4 ?_
  show OGo p e below s _ _ (T4.setTop (mkF m 12 #[.val (.ref a1), .val (.int (0 : Int32)), .val (.int (Int32.ofNat n)), .val (.ref t1), .unset, .unset] [(.int (Int32.ofNat n))]))
  refine own_st (fun t k => XS.istore X4.here hx rfl (hb hby d5_12) rfl (l' := #[.val (.ref a1), .val (.int (0 : Int32)), .val (.int (Int32.ofNat n)), .val (.ref t1), .val (.int (Int32.ofNat n)), .unset]) rfl k) ?_
  show OGo p e below s _ _ (T4.setTop (mkF m 14 #[.val (.ref a1), .val (.int (0 : Int32)), .val (.int (Int32.ofNat n)), .val (.ref t1), .val (.int (Int32.ofNat n)), .unset] []))
  refine own_st (fun t k => XS.iload X4.here hx rfl (hb hby d5_14) rfl k) ?_
  show OGo p e below s _ _ (T4.setTop (mkF m 16 #[.val (.ref a1), .val (.int (0 : Int32)), .val (.int (Int32.ofNat n)), .val (.ref t1), .val (.int (Int32.ofNat n)), .unset] [(.int (Int32.ofNat n))]))
  refine own_st (fun t k => XS.iloadN X4.here hx rfl (hb hby d5_16) rfl k) ?_
  show OGo p e below s _ _ (T4.setTop (mkF m 17 #[.val (.ref a1), .val (.int (0 : Int32)), .val (.int (Int32.ofNat n)), .val (.ref t1), .val (.int (Int32.ofNat n)), .unset] [(.int (Int32.ofNat n)), (.int (Int32.ofNat n))]))
  refine own_st (fun t k => XS.icmpYes X4.here hx rfl (pc0 := 17) (pc' := 57) rfl (hb hby d5_17) rfl (teq (rfl)).1 (by decide) (by decide) k) ?_
  show OGo p e below s _ _ (T4.setTop (mkF m 57 #[.val (.ref a1), .val (.int (0 : Int32)), .val (.int (Int32.ofNat n)), .val (.ref t1), .val (.int (Int32.ofNat n)), .unset] []))
  refine own_st (fun t k => XS.aloadN X4.here hx rfl (hb hby d5_57) rfl rfl k) ?_
  show OGo p e below s _ _ (T4.setTop (mkF m 58 #[.val (.ref a1), .val (.int (0 : Int32)), .val (.int (Int32.ofNat n)), .val (.ref t1), .val (.int (Int32.ofNat n)), .unset] [(.ref t1)]))
  exact own_retA X4 hx hlk hret rfl rfl (hb hby d5_58) (by decide) (by decide) (⟨t1, rfl, Nr4, K0, fr_t1, A_t1⟩)
theorem own_len (n : Nat) : n.toInt32 = Int32.ofNat n := rfl
theorem own_cfa (x : Int32) : (((x - x).toUInt32 >>> ((31 : Int32) &&& 31).toUInt32).toInt32).toInt8.toInt32 = 0 := by rw [Int32.sub_self]; decide
theorem d7_0 : decode jdk_52_method_15_code 0 = .ok (.iload_n 1, 1) := by decide +kernel
theorem d7_1 : decode jdk_52_method_15_code 1 = .ok (.aload_n 0, 1) := by decide +kernel
theorem d7_2 : decode jdk_52_method_15_code 2 = .ok (.arraylength, 1) := by decide +kernel
theorem d7_3 : decode jdk_52_method_15_code 3 = .ok (.isub, 1) := by decide +kernel
theorem d7_4 : decode jdk_52_method_15_code 4 = .ok (.bipush 31, 2) := by decide +kernel
theorem d7_6 : decode jdk_52_method_15_code 6 = .ok (.iushr, 1) := by decide +kernel
theorem d7_7 : decode jdk_52_method_15_code 7 = .ok (.i2b, 1) := by decide +kernel
theorem d7_8 : decode jdk_52_method_15_code 8 = .ok (.ireturn, 1) := by decide +kernel
theorem ef_7_RI (m : MethodId) (x0 : Addr) (x1 : Int32) : entryFrame m #[(.ref x0), (.int x1)] 2 = mkF m 0 #[.val (.ref x0), .val (.int x1)] [] := by first | (simp [entryFrame, mkF, argsToLocals, Value.category]; done) | rfl
set_option maxRecDepth 65536 in
set_option maxHeartbeats 40000000 in
theorem sc3 (l : Launch) (Z : State) (a0 : Array Value) (hw : ∀ d ∈ tables_1, d.before a0 Z = true) (a1 : Addr) (n : Nat) (gf : Nat → Value) (h0 : Heap) (A_a1 : OAr Z h0 a1 .byte n gf) :
    OPure l Z (⟨"java/lang/StringUTF16", "coderFromArrayLen", "([BI)B"⟩ : MethodName) jdk_52_method_15_code 2 (some .byte) [] ({ frames := 0, cells := 0, slots := 0, locals := 0 } : Room) #[(.ref a1), (.int (Int32.ofNat n))] h0 (some (.int (0 : Int32))) := by
  refine own_body (plainFor_of_name pn_java_lang_StringUTF16) (fun m => ef_7_RI m a1 (Int32.ofNat n)) ?_
  intro p e s m below meth c T0 hx hby hml hown hnm hret hlk hZ X0 e0
  have hown : s.vm.findClass "java/lang/StringUTF16" = some m.cls := hown
  have hml : c.maxLocals = 2 := hml
  show OGo p e below s _ _ (T0.setTop (mkF m 0 #[.val (.ref a1), .val (.int (Int32.ofNat n))] []))
  refine own_st (fun t k => XS.iloadN X0.here hx rfl (hb hby d7_0) rfl k) ?_
  show OGo p e below s _ _ (T0.setTop (mkF m 1 #[.val (.ref a1), .val (.int (Int32.ofNat n))] [(.int (Int32.ofNat n))]))
  refine own_st (fun t k => XS.aloadN X0.here hx rfl (hb hby d7_1) rfl rfl k) ?_
  show OGo p e below s _ _ (T0.setTop (mkF m 2 #[.val (.ref a1), .val (.int (Int32.ofNat n))] [(.ref a1), (.int (Int32.ofNat n))]))
  obtain ⟨cl5, Ar5, Sz5, -⟩ := id A_a1
  refine own_st (X0.arraylength hx (by rw [e0]; exact Ar5.1) (State.isArrayOf_alike hZ.alike Ar5.2.1) (g := (mkF m 2 #[.val (.ref a1), .val (.int (Int32.ofNat n))] [(.ref a1), (.int (Int32.ofNat n))])) rfl rfl (hb hby d7_2)) ?_
  rw [Sz5, own_len n]
  show OGo p e below s _ _ (T0.setTop (mkF m 3 #[.val (.ref a1), .val (.int (Int32.ofNat n))] [(.int (Int32.ofNat n)), (.int (Int32.ofNat n))]))
  refine own_st (fun t k => XS.isub X0.here hx rfl (hb hby d7_3) rfl k) ?_
  show OGo p e below s _ _ (T0.setTop (mkF m 4 #[.val (.ref a1), .val (.int (Int32.ofNat n))] [(.int ((Int32.ofNat n) - (Int32.ofNat n)))]))
  refine own_st (fun t k => XS.bipush X0.here hx rfl (hb hby d7_4) k) ?_
  show OGo p e below s _ _ (T0.setTop (mkF m 6 #[.val (.ref a1), .val (.int (Int32.ofNat n))] [(.int (31 : Int32)), (.int ((Int32.ofNat n) - (Int32.ofNat n)))]))
  refine own_st (fun t k => XS.iushr X0.here hx rfl (hb hby d7_6) rfl k) ?_
  show OGo p e below s _ _ (T0.setTop (mkF m 7 #[.val (.ref a1), .val (.int (Int32.ofNat n))] [(.int ((((Int32.ofNat n) - (Int32.ofNat n)).toUInt32 >>> ((31 : Int32) &&& 31).toUInt32).toInt32))]))
  refine own_st (fun t k => XS.i2b X0.here hx rfl (hb hby d7_7) rfl k) ?_
  show OGo p e below s _ _ (T0.setTop (mkF m 8 #[.val (.ref a1), .val (.int (Int32.ofNat n))] [(.int ((((Int32.ofNat n) - (Int32.ofNat n)).toUInt32 >>> ((31 : Int32) &&& 31).toUInt32).toInt32).toInt8.toInt32)]))
  rw [own_cfa]
  exact own_retN X0 hx hlk (t := .byte) hret (by simp) (hb hby d7_8) (by decide) (by decide) (⟨rfl, rfl, e0⟩)
theorem own_nz {n : Nat} (h : 0 < n) (hn : n < 2 ^ 31) : ¬ Int32.ofNat n = 0 := fun q => by
  have e := (own_nat hn).2.2
  rw [q, show (0 : Int32).toInt = 0 from by decide] at e
  omega
theorem d3_0 : decode jdk_42_method_149_code 0 = .ok (.aload_n 0, 1) := by decide +kernel
theorem d3_1 : decode jdk_42_method_149_code 1 = .ok (.invokespecial 1, 3) := by decide +kernel
theorem d3_4 : decode jdk_42_method_149_code 4 = .ok (.iload_n 3, 1) := by decide +kernel
theorem d3_5 : decode jdk_42_method_149_code 5 = .ok (.ifCond .ne 22, 3) := by decide +kernel
theorem d3_27 : decode jdk_42_method_149_code 27 = .ok (.getstatic 38, 3) := by decide +kernel
theorem d3_30 : decode jdk_42_method_149_code 30 = .ok (.ifCond .eq 28, 3) := by decide +kernel
theorem d3_33 : decode jdk_42_method_149_code 33 = .ok (.aload_n 1, 1) := by decide +kernel
theorem d3_34 : decode jdk_42_method_149_code 34 = .ok (.iload_n 2, 1) := by decide +kernel
theorem d3_35 : decode jdk_42_method_149_code 35 = .ok (.iload_n 3, 1) := by decide +kernel
theorem d3_36 : decode jdk_42_method_149_code 36 = .ok (.invokestatic 177, 3) := by decide +kernel
theorem pd_1 : parseMethodDescriptor "([CII)[B" = some ⟨[(.array .char), .int, .int], some (.array .byte)⟩ := by decide +kernel
theorem d3_39 : decode jdk_42_method_149_code 39 = .ok (.astore 5, 2) := by decide +kernel
theorem d3_41 : decode jdk_42_method_149_code 41 = .ok (.aload_n 0, 1) := by decide +kernel
theorem d3_42 : decode jdk_42_method_149_code 42 = .ok (.aload 5, 2) := by decide +kernel
theorem d3_44 : decode jdk_42_method_149_code 44 = .ok (.iload_n 3, 1) := by decide +kernel
theorem d3_45 : decode jdk_42_method_149_code 45 = .ok (.invokestatic 47, 3) := by decide +kernel
theorem pd_2 : parseMethodDescriptor "([BI)B" = some ⟨[(.array .byte), .int], some .byte⟩ := by decide +kernel
theorem d3_48 : decode jdk_42_method_149_code 48 = .ok (.putfield 15, 3) := by decide +kernel
theorem d3_51 : decode jdk_42_method_149_code 51 = .ok (.aload_n 0, 1) := by decide +kernel
theorem d3_52 : decode jdk_42_method_149_code 52 = .ok (.aload 5, 2) := by decide +kernel
theorem d3_54 : decode jdk_42_method_149_code 54 = .ok (.putfield 9, 3) := by decide +kernel
theorem d3_57 : decode jdk_42_method_149_code 57 = .ok (.return_, 1) := by decide +kernel
theorem pn_java_lang_String : plainName "java/lang/String" = true := by first | (simp [plainName, overriddenIn]; done) | decide +kernel
theorem ef_3_RRII0 (m : MethodId) (x0 : Addr) (x1 : Addr) (x2 : Int32) (x3 : Int32) : entryFrame m #[(.ref x0), (.ref x1), (.int x2), (.int x3), .null] 6 = mkF m 0 #[.val (.ref x0), .val (.ref x1), .val (.int x2), .val (.int x3), .val .null, .unset] [] := by first | (simp [entryFrame, mkF, argsToLocals, Value.category]; done) | rfl
set_option maxRecDepth 65536 in
set_option maxHeartbeats 40000000 in
theorem sc4 (l : Launch) (Z : State) (a0 : Array Value) (hw : ∀ d ∈ tables_1, d.before a0 Z = true) (a1 : Addr) (a2 : Addr) (n : Nat) (cf : Nat → Int32) (cs : Int32) (h0 : Heap) (n0 : Nat) (Z0 : n0 ≤ h0.size) (old_a1 : n0 ≤ a1) (ne_a2_a1 : a2 ≠ a1) (E_a1 : Exa Z h0 a1 "java/lang/String") (F_coder_a1 : Fld Z h0 a1 "java/lang/String" "coder" "B" (.int (0 : Int32))) (F_value_a1 : Fld Z h0 a1 "java/lang/String" "value" "[B" .null) (A_a2 : OAr Z h0 a2 .char n (fun j => .int (cf j))) (S_COMPACT_STRINGS : Sta Z h0 "java/lang/String" "COMPACT_STRINGS" "Z" (.int cs)) (hn : n ≤ 2) (h1 : 0 < n) (hc : ∀ j, j < n → ¬ (255 : Int32) < cf j) (hcs : ¬ cs = (0 : Int32)) :
    OMet l Z (⟨"java/lang/String", "<init>", "([CIILjava/lang/Void;)V"⟩ : MethodName) jdk_42_method_149_code 6 none [] ({ frames := 2, cells := 1, slots := 2, locals := 35 } : Room) #[(.ref a1), (.ref a2), (.int (0 : Int32)), (.int (Int32.ofNat n)), .null] h0 (fun v h' L => ∃ t1 : Addr, v = none ∧ Fr n0 L ∧ Keep h0 h' [a1] ∧ h0.size ≤ t1 ∧ Exa Z h' a1 "java/lang/String" ∧ Fld Z h' a1 "java/lang/String" "coder" "B" (.int (0 : Int32)) ∧ Fld Z h' a1 "java/lang/String" "value" "[B" (.ref t1) ∧ OAr Z h' t1 .byte n (fun j => .int (own_lb (cf j)))) := by
  refine own_body (plainFor_of_name pn_java_lang_String) (fun m => ef_3_RRII0 m a1 a2 (0 : Int32) (Int32.ofNat n)) ?_
  intro p e s m below meth c T0 hx hby hml hown hnm hret hlk hZ X0 e0
  have hown : s.vm.findClass "java/lang/String" = some m.cls := hown
  have hml : c.maxLocals = 6 := hml
  have N0 := Fr.nil n0
  have K0 := Keep.refl h0 [a1]
  show OGo p e below s _ _ (T0.setTop (mkF m 0 #[.val (.ref a1), .val (.ref a2), .val (.int (0 : Int32)), .val (.int (Int32.ofNat n)), .val .null, .unset] []))
  refine own_st (fun t k => XS.aloadN X0.here hx rfl (hb hby d3_0) rfl rfl k) ?_
  show OGo p e below s _ _ (T0.setTop (mkF m 1 #[.val (.ref a1), .val (.ref a2), .val (.int (0 : Int32)), .val (.int (Int32.ofNat n)), .val .null, .unset] [(.ref a1)]))
  obtain ⟨T6, X6, e6, st6⟩ := initO X0 hx hZ hown (hw _ (List.mem_of_getElem? (i := 19) rfl)) (hw _ (List.mem_of_getElem? (i := 20) rfl)) (hw _ (List.mem_of_getElem? (i := 21) rfl)) e0 (g := (mkF m 1 #[.val (.ref a1), .val (.ref a2), .val (.int (0 : Int32)), .val (.int (Int32.ofNat n)), .val .null, .unset] [(.ref a1)])) rfl (by rw [hml]; rfl) rfl (hb hby d3_1) (by decide) (W := 0) (by show 2 * 0 + _ ≤ _; exact Nat.le_of_eq rfl) (by decide)
  refine own_st st6 ?_
  show OGo p e below s _ _ (T6.setTop (mkF m 4 #[.val (.ref a1), .val (.ref a2), .val (.int (0 : Int32)), .val (.int (Int32.ofNat n)), .val .null, .unset] []))
  refine own_st (fun t k => XS.iloadN X6.here hx rfl (hb hby d3_4) rfl k) ?_
  show OGo p e below s _ _ (T6.setTop (mkF m 5 #[.val (.ref a1), .val (.ref a2), .val (.int (0 : Int32)), .val (.int (Int32.ofNat n)), .val .null, .unset] [(.int (Int32.ofNat n))]))
  refine own_st (fun t k => XS.ifYes X6.here hx rfl (pc0 := 5) (pc' := 27) rfl (hb hby d3_5) rfl ((if0 _ _).trans (feq ((own_nz h1 (by omega)))).2) (by decide) (by decide) k) ?_
  show OGo p e below s _ _ (T6.setTop (mkF m 27 #[.val (.ref a1), .val (.ref a2), .val (.int (0 : Int32)), .val (.int (Int32.ofNat n)), .val .null, .unset] []))
  obtain ⟨T7, X7, e7, st7⟩ := getS2 X6 hx hZ hown (host := "") (Or.inl (hw _ (List.mem_of_getElem? (i := 22) rfl))) Via.refl e6 S_COMPACT_STRINGS (g := (mkF m 27 #[.val (.ref a1), .val (.ref a2), .val (.int (0 : Int32)), .val (.int (Int32.ofNat n)), .val .null, .unset] [])) rfl (hb hby d3_27)
  refine own_st st7 ?_
  show OGo p e below s _ _ (T7.setTop (mkF m 30 #[.val (.ref a1), .val (.ref a2), .val (.int (0 : Int32)), .val (.int (Int32.ofNat n)), .val .null, .unset] [(.int cs)]))
  refine own_st (fun t k => XS.ifNo X7.here hx rfl (hb hby d3_30) rfl ((if0 _ _).trans (feq (hcs)).1) k) ?_
  show OGo p e below s _ _ (T7.setTop (mkF m 33 #[.val (.ref a1), .val (.ref a2), .val (.int (0 : Int32)), .val (.int (Int32.ofNat n)), .val .null, .unset] []))
  refine own_st (fun t k => XS.aloadN X7.here hx rfl (hb hby d3_33) rfl rfl k) ?_
  show OGo p e below s _ _ (T7.setTop (mkF m 34 #[.val (.ref a1), .val (.ref a2), .val (.int (0 : Int32)), .val (.int (Int32.ofNat n)), .val .null, .unset] [(.ref a2)]))
  refine own_st (fun t k => XS.iloadN X7.here hx rfl (hb hby d3_34) rfl k) ?_
  show OGo p e below s _ _ (T7.setTop (mkF m 35 #[.val (.ref a1), .val (.ref a2), .val (.int (0 : Int32)), .val (.int (Int32.ofNat n)), .val .null, .unset] [(.int (0 : Int32)), (.ref a2)]))
  refine own_st (fun t k => XS.iloadN X7.here hx rfl (hb hby d3_35) rfl k) ?_
  show OGo p e below s _ _ (T7.setTop (mkF m 36 #[.val (.ref a1), .val (.ref a2), .val (.int (0 : Int32)), .val (.int (Int32.ofNat n)), .val .null, .unset] [(.int (Int32.ofNat n)), (.int (0 : Int32)), (.ref a2)]))
  obtain ⟨_, T8, Lc8, X8, hQ8, st8⟩ := own_callS X7 hx hZ (y := (⟨"java/lang/StringUTF16", "compress", "([CII)[B"⟩ : MethodName)) (W := 0) hown (hw _ (List.mem_of_getElem? (i := 23) rfl)) (hw _ (List.mem_of_getElem? (i := 24) rfl)) (hw _ (List.mem_of_getElem? (i := 25) rfl)) (hw _ (List.mem_of_getElem? (i := 26) rfl)) (by decide) (sc2 l Z a0 hw a2 n cf h0 n0 Z0 A_a2 hn h1 hc) (by decide) (by decide) (g := (mkF m 36 #[.val (.ref a1), .val (.ref a2), .val (.int (0 : Int32)), .val (.int (Int32.ofNat n)), .val .null, .unset] [(.int (Int32.ofNat n)), (.int (0 : Int32)), (.ref a2)])) rfl (by rw [hml]; rfl) (argsL := [(.ref a2), (.int (0 : Int32)), (.int (Int32.ofNat n))]) (rest := []) (lenOf pd_1 rfl) rfl (by show 2 * 0 + _ ≤ _; exact Nat.le_of_eq rfl) (hb hby d3_36) rfl e7 (by decide) (by decide)
  obtain ⟨t1, rfl, Nq8, Kq8, fq8_t1, q8_0⟩ := hQ8
  have ne_a1_t1 : a1 ≠ t1 := Nat.ne_of_lt (Nat.lt_of_lt_of_le E_a1.lt fq8_t1)
  have ne_a2_t1 : a2 ≠ t1 := Nat.ne_of_lt (Nat.lt_of_lt_of_le A_a2.lt fq8_t1)
  have old_t1 : n0 ≤ t1 := Nat.le_trans Z0 fq8_t1
  have fr_t1 : h0.size ≤ t1 := Nat.le_trans K0.1 fq8_t1
  have hpl_Kq8 : ∀ w ∈ ([] : List Addr), ∃ c : Cell, h0[w]? = some c ∧ c.vm.isStatics = false := all0
  have Z0 := Nat.le_trans Z0 Kq8.1
  have K0 := K0.trans Kq8 all0
  have E_a1 := E_a1.keep Kq8
  have F_coder_a1 := F_coder_a1.keep Kq8 nin0
  have F_value_a1 := F_value_a1.keep Kq8 nin0
  have A_a2 := A_a2.keep Kq8 nin0
  have S_COMPACT_STRINGS := own_sta_keep S_COMPACT_STRINGS Kq8 hpl_Kq8
  have Nr8 := Fr.app N0 Nq8
  have A_t1 := q8_0
  refine own_st st8 ?_
  show OGo p e below s _ _ (T8.setTop (mkF m 39 #[.val (.ref a1), .val (.ref a2), .val (.int (0 : Int32)), .val (.int (Int32.ofNat n)), .val .null, .unset] [(.ref t1)]))
  refine own_st (fun t k => XS.astore X8.here hx rfl (hb hby d3_39) rfl rfl (l' := #[.val (.ref a1), .val (.ref a2), .val (.int (0 : Int32)), .val (.int (Int32.ofNat n)), .val .null, .val (.ref t1)]) rfl k) ?_
  show OGo p e below s _ _ (T8.setTop (mkF m 41 #[.val (.ref a1), .val (.ref a2), .val (.int (0 : Int32)), .val (.int (Int32.ofNat n)), .val .null, .val (.ref t1)] []))
  refine own_st (fun t k => XS.aloadN X8.here hx rfl (hb hby d3_41) rfl rfl k) ?_
  show OGo p e below s _ _ (T8.setTop (mkF m 42 #[.val (.ref a1), .val (.ref a2), .val (.int (0 : Int32)), .val (.int (Int32.ofNat n)), .val .null, .val (.ref t1)] [(.ref a1)]))
  refine own_st (fun t k => XS.aload X8.here hx rfl (hb hby d3_42) rfl rfl k) ?_
  show OGo p e below s _ _ (T8.setTop (mkF m 44 #[.val (.ref a1), .val (.ref a2), .val (.int (0 : Int32)), .val (.int (Int32.ofNat n)), .val .null, .val (.ref t1)] [(.ref t1), (.ref a1)]))
  refine own_st (fun t k => XS.iloadN X8.here hx rfl (hb hby d3_44) rfl k) ?_
  show OGo p e below s _ _ (T8.setTop (mkF m 45 #[.val (.ref a1), .val (.ref a2), .val (.int (0 : Int32)), .val (.int (Int32.ofNat n)), .val .null, .val (.ref t1)] [(.int (Int32.ofNat n)), (.ref t1), (.ref a1)]))
  obtain ⟨T9, X9, e9, st9⟩ := own_callSP X8 hx hZ (y := (⟨"java/lang/StringUTF16", "coderFromArrayLen", "([BI)B"⟩ : MethodName)) (W := 1) hown (hw _ (List.mem_of_getElem? (i := 31) rfl)) (hw _ (List.mem_of_getElem? (i := 32) rfl)) (hw _ (List.mem_of_getElem? (i := 25) rfl)) (hw _ (List.mem_of_getElem? (i := 33) rfl)) (by decide) (sc3 l Z a0 hw t1 n (fun j => .int (own_lb (cf j))) T8.heap A_t1) (by decide) (by decide) (g := (mkF m 45 #[.val (.ref a1), .val (.ref a2), .val (.int (0 : Int32)), .val (.int (Int32.ofNat n)), .val .null, .val (.ref t1)] [(.int (Int32.ofNat n)), (.ref t1), (.ref a1)])) rfl (by rw [hml]; rfl) (argsL := [(.ref t1), (.int (Int32.ofNat n))]) (rest := [(.ref a1)]) (lenOf pd_2 rfl) rfl (by show 2 * 0 + _ ≤ _; exact Nat.le_of_eq rfl) (hb hby d3_45) rfl rfl (by decide) (by decide)
  refine own_st st9 ?_
  show OGo p e below s _ _ (T9.setTop (mkF m 48 #[.val (.ref a1), .val (.ref a2), .val (.int (0 : Int32)), .val (.int (Int32.ofNat n)), .val .null, .val (.ref t1)] [(.int (0 : Int32)), (.ref a1)]))
  obtain ⟨T10, hp10, X10, e10, Ww10, st10⟩ := putFN X9 hx hZ hown (hw _ (List.mem_of_getElem? (i := 34) rfl)) Via.refl e9 F_coder_a1 E_a1 (Or.inr ⟨(hw _ (List.mem_of_getElem? (i := 35) rfl)), rfl, hnm⟩) (hw _ (List.mem_of_getElem? (i := 10) rfl)) (ty := .byte) (v' := (.int (0 : Int32))) (by decide) rfl (by decide) (g := (mkF m 48 #[.val (.ref a1), .val (.ref a2), .val (.int (0 : Int32)), .val (.int (Int32.ofNat n)), .val .null, .val (.ref t1)] [(.int (0 : Int32)), (.ref a1)])) rfl rfl (hb hby d3_48)
  have Nf10 := Fr.snoc X10 Nr8 old_a1
  have Z0 := Nat.le_trans Z0 (Keep.of_wr Ww10).1
  have K0 := K0.wr Ww10 (Or.inl (List.mem_of_getElem? (i := 0) rfl))
  have E_a1 := E_a1.wr Ww10
  have F_coder_a1 := F_coder_a1.same Ww10
  have F_value_a1 := F_value_a1.other Ww10 (Or.inr (slot_ne (Or.inr (hw _ (List.mem_of_getElem? (i := 37) rfl))) (Or.inr (hw _ (List.mem_of_getElem? (i := 35) rfl))) (by decide) (t := (.array .byte)) (t' := .byte) (by decide) (by decide)))
  have A_a2 := A_a2.other Ww10 ne_a2_a1
  have S_COMPACT_STRINGS := S_COMPACT_STRINGS.wr Ww10
  have A_t1 := A_t1.other Ww10 (Ne.symm ne_a1_t1)
  refine own_st st10 ?_
  show OGo p e below s _ _ (T10.setTop (mkF m 51 #[.val (.ref a1), .val (.ref a2), .val (.int (0 : Int32)), .val (.int (Int32.ofNat n)), .val .null, .val (.ref t1)] []))
  refine own_st (fun t k => XS.aloadN X10.here hx rfl (hb hby d3_51) rfl rfl k) ?_
  show OGo p e below s _ _ (T10.setTop (mkF m 52 #[.val (.ref a1), .val (.ref a2), .val (.int (0 : Int32)), .val (.int (Int32.ofNat n)), .val .null, .val (.ref t1)] [(.ref a1)]))
  refine own_st (fun t k => XS.aload X10.here hx rfl (hb hby d3_52) rfl rfl k) ?_
  show OGo p e below s _ _ (T10.setTop (mkF m 54 #[.val (.ref a1), .val (.ref a2), .val (.int (0 : Int32)), .val (.int (Int32.ofNat n)), .val .null, .val (.ref t1)] [(.ref t1), (.ref a1)]))
  obtain ⟨T11, hp11, X11, e11, Ww11, st11⟩ := putF X10 hx hZ hown (host := "") (Or.inl (hw _ (List.mem_of_getElem? (i := 36) rfl))) Via.refl e10 F_value_a1 E_a1 (Or.inr ⟨(hw _ (List.mem_of_getElem? (i := 37) rfl)), rfl, hnm⟩) (hw _ (List.mem_of_getElem? (i := 10) rfl)) (ty := (.array .byte)) (by decide) rfl rfl (g := (mkF m 54 #[.val (.ref a1), .val (.ref a2), .val (.int (0 : Int32)), .val (.int (Int32.ofNat n)), .val .null, .val (.ref t1)] [(.ref t1), (.ref a1)])) rfl rfl (hb hby d3_54)
  have Nf11 := Fr.snoc X11 Nf10 old_a1
  have Z0 := Nat.le_trans Z0 (Keep.of_wr Ww11).1
  have K0 := K0.wr Ww11 (Or.inl (List.mem_of_getElem? (i := 0) rfl))
  have E_a1 := E_a1.wr Ww11
  have F_coder_a1 := F_coder_a1.other Ww11 (Or.inr (slot_ne (Or.inr (hw _ (List.mem_of_getElem? (i := 35) rfl))) (Or.inr (hw _ (List.mem_of_getElem? (i := 37) rfl))) (by decide) (t := .byte) (t' := (.array .byte)) (by decide) (by decide)))
  have F_value_a1 := F_value_a1.same Ww11
  have A_a2 := A_a2.other Ww11 ne_a2_a1
  have S_COMPACT_STRINGS := S_COMPACT_STRINGS.wr Ww11
  have A_t1 := A_t1.other Ww11 (Ne.symm ne_a1_t1)
  refine own_st st11 ?_
  show OGo p e below s _ _ (T11.setTop (mkF m 57 #[.val (.ref a1), .val (.ref a2), .val (.int (0 : Int32)), .val (.int (Int32.ofNat n)), .val .null, .val (.ref t1)] []))
  exact own_retV X11 hx hlk hret (hb hby d3_57) (by decide) (by decide) (⟨t1, rfl, Nf11, (by rw [e11]; exact K0), fr_t1, (by rw [e11]; exact E_a1), (by rw [e11]; exact F_coder_a1), (by rw [e11]; exact F_value_a1), (by rw [e11]; exact A_t1)⟩)
theorem d2_0 : decode jdk_42_method_3_code 0 = .ok (.aload_n 0, 1) := by decide +kernel
theorem d2_1 : decode jdk_42_method_3_code 1 = .ok (.aload_n 1, 1) := by decide +kernel
theorem d2_2 : decode jdk_42_method_3_code 2 = .ok (.iconst 0, 1) := by decide +kernel
theorem d2_3 : decode jdk_42_method_3_code 3 = .ok (.aload_n 1, 1) := by decide +kernel
theorem d2_4 : decode jdk_42_method_3_code 4 = .ok (.arraylength, 1) := by decide +kernel
theorem d2_5 : decode jdk_42_method_3_code 5 = .ok (.aconst_null, 1) := by decide +kernel
theorem d2_6 : decode jdk_42_method_3_code 6 = .ok (.invokespecial 27, 3) := by decide +kernel
theorem pd_3 : parseMethodDescriptor "([CIILjava/lang/Void;)V" = some ⟨[(.array .char), .int, .int, (.object "java/lang/Void")], none⟩ := by decide +kernel
theorem d2_9 : decode jdk_42_method_3_code 9 = .ok (.return_, 1) := by decide +kernel
theorem ef_2_RR (m : MethodId) (x0 : Addr) (x1 : Addr) : entryFrame m #[(.ref x0), (.ref x1)] 2 = mkF m 0 #[.val (.ref x0), .val (.ref x1)] [] := by first | (simp [entryFrame, mkF, argsToLocals, Value.category]; done) | rfl
set_option maxRecDepth 65536 in
set_option maxHeartbeats 40000000 in
theorem sc5 (l : Launch) (Z : State) (a0 : Array Value) (hw : ∀ d ∈ tables_1, d.before a0 Z = true) (a1 : Addr) (a2 : Addr) (n : Nat) (cf : Nat → Int32) (cs : Int32) (h0 : Heap) (n0 : Nat) (Z0 : n0 ≤ h0.size) (old_a1 : n0 ≤ a1) (ne_a2_a1 : a2 ≠ a1) (E_a1 : Exa Z h0 a1 "java/lang/String") (F_coder_a1 : Fld Z h0 a1 "java/lang/String" "coder" "B" (.int (0 : Int32))) (F_value_a1 : Fld Z h0 a1 "java/lang/String" "value" "[B" .null) (A_a2 : OAr Z h0 a2 .char n (fun j => .int (cf j))) (S_COMPACT_STRINGS : Sta Z h0 "java/lang/String" "COMPACT_STRINGS" "Z" (.int cs)) (hn : n ≤ 2) (h1 : 0 < n) (hc : ∀ j, j < n → ¬ (255 : Int32) < cf j) (hcs : ¬ cs = (0 : Int32)) :
    OMet l Z (⟨"java/lang/String", "<init>", "([C)V"⟩ : MethodName) jdk_42_method_3_code 2 none [] ({ frames := 3, cells := 1, slots := 2, locals := 52 } : Room) #[(.ref a1), (.ref a2)] h0 (fun v h' L => ∃ t1 : Addr, v = none ∧ Fr n0 L ∧ Keep h0 h' [a1] ∧ h0.size ≤ t1 ∧ Exa Z h' a1 "java/lang/String" ∧ Fld Z h' a1 "java/lang/String" "coder" "B" (.int (0 : Int32)) ∧ Fld Z h' a1 "java/lang/String" "value" "[B" (.ref t1) ∧ OAr Z h' t1 .byte n (fun j => .int (own_lb (cf j)))) := by
  refine own_body (plainFor_of_name pn_java_lang_String) (fun m => ef_2_RR m a1 a2) ?_
  intro p e s m below meth c T0 hx hby hml hown hnm hret hlk hZ X0 e0
  have hown : s.vm.findClass "java/lang/String" = some m.cls := hown
  have hml : c.maxLocals = 2 := hml
  have N0 := Fr.nil n0
  have K0 := Keep.refl h0 [a1]
  show OGo p e below s _ _ (T0.setTop (mkF m 0 #[.val (.ref a1), .val (.ref a2)] []))
  refine own_st (fun t k => XS.aloadN X0.here hx rfl (hb hby d2_0) rfl rfl k) ?_
  show OGo p e below s _ _ (T0.setTop (mkF m 1 #[.val (.ref a1), .val (.ref a2)] [(.ref a1)]))
  refine own_st (fun t k => XS.aloadN X0.here hx rfl (hb hby d2_1) rfl rfl k) ?_
  show OGo p e below s _ _ (T0.setTop (mkF m 2 #[.val (.ref a1), .val (.ref a2)] [(.ref a2), (.ref a1)]))
  refine own_st (fun t k => XS.iconst X0.here hx rfl (hb hby d2_2) k) ?_
  show OGo p e below s _ _ (T0.setTop (mkF m 3 #[.val (.ref a1), .val (.ref a2)] [(.int (0 : Int32)), (.ref a2), (.ref a1)]))
  refine own_st (fun t k => XS.aloadN X0.here hx rfl (hb hby d2_3) rfl rfl k) ?_
  show OGo p e below s _ _ (T0.setTop (mkF m 4 #[.val (.ref a1), .val (.ref a2)] [(.ref a2), (.int (0 : Int32)), (.ref a2), (.ref a1)]))
  obtain ⟨cl12, Ar12, Sz12, -⟩ := id A_a2
  refine own_st (X0.arraylength hx (by rw [e0]; exact Ar12.1) (State.isArrayOf_alike hZ.alike Ar12.2.1) (g := (mkF m 4 #[.val (.ref a1), .val (.ref a2)] [(.ref a2), (.int (0 : Int32)), (.ref a2), (.ref a1)])) rfl rfl (hb hby d2_4)) ?_
  rw [Sz12, own_len n]
  show OGo p e below s _ _ (T0.setTop (mkF m 5 #[.val (.ref a1), .val (.ref a2)] [(.int (Int32.ofNat n)), (.int (0 : Int32)), (.ref a2), (.ref a1)]))
  refine own_st (fun t k => XS.aconstNull X0.here hx rfl (hb hby d2_5) k) ?_
  show OGo p e below s _ _ (T0.setTop (mkF m 6 #[.val (.ref a1), .val (.ref a2)] [.null, (.int (Int32.ofNat n)), (.int (0 : Int32)), (.ref a2), (.ref a1)]))
  obtain ⟨_, T13, Lc13, X13, hQ13, st13⟩ := own_callI X0 hx hZ (y := (⟨"java/lang/String", "<init>", "([CIILjava/lang/Void;)V"⟩ : MethodName)) (W := 0) rfl hown (hw _ (List.mem_of_getElem? (i := 15) rfl)) (hw _ (List.mem_of_getElem? (i := 16) rfl)) (hw _ (List.mem_of_getElem? (i := 18) rfl)) (hw _ (List.mem_of_getElem? (i := 11) rfl)) (by decide) (sc4 l Z a0 hw a1 a2 n cf cs h0 n0 Z0 old_a1 ne_a2_a1 E_a1 F_coder_a1 F_value_a1 A_a2 S_COMPACT_STRINGS hn h1 hc hcs) (by decide) (by decide) (a := a1) (g := (mkF m 6 #[.val (.ref a1), .val (.ref a2)] [.null, (.int (Int32.ofNat n)), (.int (0 : Int32)), (.ref a2), (.ref a1)])) rfl (by rw [hml]; rfl) (argsL := [(.ref a2), (.int (0 : Int32)), (.int (Int32.ofNat n)), .null]) (rest := []) (lenOf pd_3 rfl) rfl (by show 2 * 0 + _ ≤ _; exact Nat.le_of_eq rfl) (hb hby d2_6) rfl e0 (by decide) (by decide)
  obtain ⟨t1, rfl, Nq13, Kq13, fq13_t1, q13_0, q13_1, q13_2, q13_3⟩ := hQ13
  have ne_a1_t1 : a1 ≠ t1 := Nat.ne_of_lt (Nat.lt_of_lt_of_le E_a1.lt fq13_t1)
  have ne_a2_t1 : a2 ≠ t1 := Nat.ne_of_lt (Nat.lt_of_lt_of_le A_a2.lt fq13_t1)
  have old_t1 : n0 ≤ t1 := Nat.le_trans Z0 fq13_t1
  have fr_t1 : h0.size ≤ t1 := Nat.le_trans K0.1 fq13_t1
  have hpl_Kq13 : ∀ w ∈ [a1], ∃ c : Cell, h0[w]? = some c ∧ c.vm.isStatics = false := (allS (own_pl_exa E_a1) all0)
  have Z0 := Nat.le_trans Z0 Kq13.1
  have K0 := K0.trans Kq13 (allS (Or.inl (List.mem_of_getElem? (i := 0) rfl)) all0)
  have A_a2 := A_a2.keep Kq13 (ninS ne_a2_a1 nin0)
  have S_COMPACT_STRINGS := own_sta_keep S_COMPACT_STRINGS Kq13 hpl_Kq13
  have Nr13 := Fr.app N0 Nq13
  have E_a1 := q13_0
  have F_coder_a1 := q13_1
  have F_value_a1 := q13_2
  have A_t1 := q13_3
  refine own_st st13 ?_
  show OGo p e below s _ _ (T13.setTop (mkF m 9 #[.val (.ref a1), .val (.ref a2)] []))
  exact own_retV X13 hx hlk hret (hb hby d2_9) (by decide) (by decide) (⟨t1, rfl, Nr13, K0, fr_t1, E_a1, F_coder_a1, F_value_a1, A_t1⟩)
theorem d11_0 : decode jdk_42_method_151_code 0 = .ok (.aload_n 0, 1) := by decide +kernel
theorem d11_1 : decode jdk_42_method_151_code 1 = .ok (.invokespecial 1, 3) := by decide +kernel
theorem d11_4 : decode jdk_42_method_151_code 4 = .ok (.aload_n 0, 1) := by decide +kernel
theorem d11_5 : decode jdk_42_method_151_code 5 = .ok (.aload_n 1, 1) := by decide +kernel
theorem d11_6 : decode jdk_42_method_151_code 6 = .ok (.putfield 9, 3) := by decide +kernel
theorem d11_9 : decode jdk_42_method_151_code 9 = .ok (.aload_n 0, 1) := by decide +kernel
theorem d11_10 : decode jdk_42_method_151_code 10 = .ok (.iload_n 2, 1) := by decide +kernel
theorem d11_11 : decode jdk_42_method_151_code 11 = .ok (.putfield 15, 3) := by decide +kernel
theorem d11_14 : decode jdk_42_method_151_code 14 = .ok (.return_, 1) := by decide +kernel
theorem ef_11_RRI (m : MethodId) (x0 : Addr) (x1 : Addr) (x2 : Int32) : entryFrame m #[(.ref x0), (.ref x1), (.int x2)] 3 = mkF m 0 #[.val (.ref x0), .val (.ref x1), .val (.int x2)] [] := by first | (simp [entryFrame, mkF, argsToLocals, Value.category]; done) | rfl
set_option maxRecDepth 65536 in
set_option maxHeartbeats 40000000 in
theorem sc8 (l : Launch) (Z : State) (a0 : Array Value) (hw : ∀ d ∈ tables_1, d.before a0 Z = true) (a1 : Addr) (a2 : Addr) (h0 : Heap) (n0 : Nat) (Z0 : n0 ≤ h0.size) (old_a1 : n0 ≤ a1) (E_a1 : Exa Z h0 a1 "java/lang/String") (F_coder_a1 : Fld Z h0 a1 "java/lang/String" "coder" "B" (.int (0 : Int32))) (F_value_a1 : Fld Z h0 a1 "java/lang/String" "value" "[B" .null) :
    OMet l Z (⟨"java/lang/String", "<init>", "([BB)V"⟩ : MethodName) jdk_42_method_151_code 3 none [] ({ frames := 1, cells := 0, slots := 0, locals := 12 } : Room) #[(.ref a1), (.ref a2), (.int (0 : Int32))] h0 (fun v h' L => v = none ∧ Fr n0 L ∧ Keep h0 h' [a1] ∧ Exa Z h' a1 "java/lang/String" ∧ Fld Z h' a1 "java/lang/String" "coder" "B" (.int (0 : Int32)) ∧ Fld Z h' a1 "java/lang/String" "value" "[B" (.ref a2)) := by
  refine own_body (plainFor_of_name pn_java_lang_String) (fun m => ef_11_RRI m a1 a2 (0 : Int32)) ?_
  intro p e s m below meth c T0 hx hby hml hown hnm hret hlk hZ X0 e0
  have hown : s.vm.findClass "java/lang/String" = some m.cls := hown
  have hml : c.maxLocals = 3 := hml
  have N0 := Fr.nil n0
  have K0 := Keep.refl h0 [a1]
  show OGo p e below s _ _ (T0.setTop (mkF m 0 #[.val (.ref a1), .val (.ref a2), .val (.int (0 : Int32))] []))
  refine own_st (fun t k => XS.aloadN X0.here hx rfl (hb hby d11_0) rfl rfl k) ?_
  show OGo p e below s _ _ (T0.setTop (mkF m 1 #[.val (.ref a1), .val (.ref a2), .val (.int (0 : Int32))] [(.ref a1)]))
  obtain ⟨T14, X14, e14, st14⟩ := initO X0 hx hZ hown (hw _ (List.mem_of_getElem? (i := 19) rfl)) (hw _ (List.mem_of_getElem? (i := 20) rfl)) (hw _ (List.mem_of_getElem? (i := 21) rfl)) e0 (g := (mkF m 1 #[.val (.ref a1), .val (.ref a2), .val (.int (0 : Int32))] [(.ref a1)])) rfl (by rw [hml]; rfl) rfl (hb hby d11_1) (by decide) (W := 0) (by show 2 * 0 + _ ≤ _; exact Nat.le_of_eq rfl) (by decide)
  refine own_st st14 ?_
  show OGo p e below s _ _ (T14.setTop (mkF m 4 #[.val (.ref a1), .val (.ref a2), .val (.int (0 : Int32))] []))
  refine own_st (fun t k => XS.aloadN X14.here hx rfl (hb hby d11_4) rfl rfl k) ?_
  show OGo p e below s _ _ (T14.setTop (mkF m 5 #[.val (.ref a1), .val (.ref a2), .val (.int (0 : Int32))] [(.ref a1)]))
  refine own_st (fun t k => XS.aloadN X14.here hx rfl (hb hby d11_5) rfl rfl k) ?_
  show OGo p e below s _ _ (T14.setTop (mkF m 6 #[.val (.ref a1), .val (.ref a2), .val (.int (0 : Int32))] [(.ref a2), (.ref a1)]))
  obtain ⟨T15, hp15, X15, e15, Ww15, st15⟩ := putF X14 hx hZ hown (host := "") (Or.inl (hw _ (List.mem_of_getElem? (i := 36) rfl))) Via.refl e14 F_value_a1 E_a1 (Or.inr ⟨(hw _ (List.mem_of_getElem? (i := 37) rfl)), rfl, hnm⟩) (hw _ (List.mem_of_getElem? (i := 10) rfl)) (ty := (.array .byte)) (by decide) rfl rfl (g := (mkF m 6 #[.val (.ref a1), .val (.ref a2), .val (.int (0 : Int32))] [(.ref a2), (.ref a1)])) rfl rfl (hb hby d11_6)
  have Nf15 := Fr.snoc X15 N0 old_a1
  have Z0 := Nat.le_trans Z0 (Keep.of_wr Ww15).1
  have K0 := K0.wr Ww15 (Or.inl (List.mem_of_getElem? (i := 0) rfl))
  have E_a1 := E_a1.wr Ww15
  have F_coder_a1 := F_coder_a1.other Ww15 (Or.inr (slot_ne (Or.inr (hw _ (List.mem_of_getElem? (i := 35) rfl))) (Or.inr (hw _ (List.mem_of_getElem? (i := 37) rfl))) (by decide) (t := .byte) (t' := (.array .byte)) (by decide) (by decide)))
  have F_value_a1 := F_value_a1.same Ww15
  refine own_st st15 ?_
  show OGo p e below s _ _ (T15.setTop (mkF m 9 #[.val (.ref a1), .val (.ref a2), .val (.int (0 : Int32))] []))
  refine own_st (fun t k => XS.aloadN X15.here hx rfl (hb hby d11_9) rfl rfl k) ?_
  show OGo p e below s _ _ (T15.setTop (mkF m 10 #[.val (.ref a1), .val (.ref a2), .val (.int (0 : Int32))] [(.ref a1)]))
  refine own_st (fun t k => XS.iloadN X15.here hx rfl (hb hby d11_10) rfl k) ?_
  show OGo p e below s _ _ (T15.setTop (mkF m 11 #[.val (.ref a1), .val (.ref a2), .val (.int (0 : Int32))] [(.int (0 : Int32)), (.ref a1)]))
  obtain ⟨T16, hp16, X16, e16, Ww16, st16⟩ := putFN X15 hx hZ hown (hw _ (List.mem_of_getElem? (i := 34) rfl)) Via.refl e15 F_coder_a1 E_a1 (Or.inr ⟨(hw _ (List.mem_of_getElem? (i := 35) rfl)), rfl, hnm⟩) (hw _ (List.mem_of_getElem? (i := 10) rfl)) (ty := .byte) (v' := (.int (0 : Int32))) (by decide) rfl (by decide) (g := (mkF m 11 #[.val (.ref a1), .val (.ref a2), .val (.int (0 : Int32))] [(.int (0 : Int32)), (.ref a1)])) rfl rfl (hb hby d11_11)
  have Nf16 := Fr.snoc X16 Nf15 old_a1
  have Z0 := Nat.le_trans Z0 (Keep.of_wr Ww16).1
  have K0 := K0.wr Ww16 (Or.inl (List.mem_of_getElem? (i := 0) rfl))
  have E_a1 := E_a1.wr Ww16
  have F_coder_a1 := F_coder_a1.same Ww16
  have F_value_a1 := F_value_a1.other Ww16 (Or.inr (slot_ne (Or.inr (hw _ (List.mem_of_getElem? (i := 37) rfl))) (Or.inr (hw _ (List.mem_of_getElem? (i := 35) rfl))) (by decide) (t := (.array .byte)) (t' := .byte) (by decide) (by decide)))
  refine own_st st16 ?_
  show OGo p e below s _ _ (T16.setTop (mkF m 14 #[.val (.ref a1), .val (.ref a2), .val (.int (0 : Int32))] []))
  exact own_retV X16 hx hlk hret (hb hby d11_14) (by decide) (by decide) (⟨rfl, Nf16, (by rw [e16]; exact K0), (by rw [e16]; exact E_a1), (by rw [e16]; exact F_coder_a1), (by rw [e16]; exact F_value_a1)⟩)
theorem d9_0 : decode jdk_43_method_3_code 0 = .ok (.iload_n 0, 1) := by decide +kernel
theorem d9_1 : decode jdk_43_method_3_code 1 = .ok (.sipush 255, 3) := by decide +kernel
theorem d9_4 : decode jdk_43_method_3_code 4 = .ok (.if_icmp .gt 7, 3) := by decide +kernel
theorem d9_7 : decode jdk_43_method_3_code 7 = .ok (.iconst 1, 1) := by decide +kernel
theorem d9_8 : decode jdk_43_method_3_code 8 = .ok (.goto 4, 3) := by decide +kernel
theorem d9_12 : decode jdk_43_method_3_code 12 = .ok (.ireturn, 1) := by decide +kernel
theorem pn_java_lang_StringLatin1 : plainName "java/lang/StringLatin1" = true := by first | (simp [plainName, overriddenIn]; done) | decide +kernel
theorem ef_9_I (m : MethodId) (x0 : Int32) : entryFrame m #[(.int x0)] 1 = mkF m 0 #[.val (.int x0)] [] := by first | (simp [entryFrame, mkF, argsToLocals, Value.category]; done) | rfl
set_option maxRecDepth 65536 in
set_option maxHeartbeats 40000000 in
theorem sc9 (l : Launch) (Z : State) (a0 : Array Value) (hw : ∀ d ∈ tables_1, d.before a0 Z = true) (q1 : Int32) (h0 : Heap) (hq : ¬ (255 : Int32) < q1) :
    OPure l Z (⟨"java/lang/StringLatin1", "canEncode", "(C)Z"⟩ : MethodName) jdk_43_method_3_code 1 (some .boolean) [] ({ frames := 0, cells := 0, slots := 0, locals := 0 } : Room) #[(.int q1)] h0 (some (.int (1 : Int32))) := by
  refine own_body (plainFor_of_name pn_java_lang_StringLatin1) (fun m => ef_9_I m q1) ?_
  intro p e s m below meth c T0 hx hby hml hown hnm hret hlk hZ X0 e0
  have hown : s.vm.findClass "java/lang/StringLatin1" = some m.cls := hown
  have hml : c.maxLocals = 1 := hml
  show OGo p e below s _ _ (T0.setTop (mkF m 0 #[.val (.int q1)] []))
  refine own_st (fun t k => XS.iloadN X0.here hx rfl (hb hby d9_0) rfl k) ?_
  show OGo p e below s _ _ (T0.setTop (mkF m 1 #[.val (.int q1)] [(.int q1)]))
  refine own_st (fun t k => XS.sipush X0.here hx rfl (hb hby d9_1) k) ?_
  show OGo p e below s _ _ (T0.setTop (mkF m 4 #[.val (.int q1)] [(.int (255 : Int32)), (.int q1)]))
  refine own_st (fun t k => XS.icmpNo X0.here hx rfl (hb hby d9_4) rfl (flt (hq)).2.2.1 k) ?_
  show OGo p e below s _ _ (T0.setTop (mkF m 7 #[.val (.int q1)] []))
  refine own_st (fun t k => XS.iconst X0.here hx rfl (hb hby d9_7) k) ?_
  show OGo p e below s _ _ (T0.setTop (mkF m 8 #[.val (.int q1)] [(.int (1 : Int32))]))
  refine own_st (fun t k => XS.goto X0.here hx rfl (pc0 := 8) (pc' := 12) rfl (hb hby d9_8) (by decide) (by decide) k) ?_
  show OGo p e below s _ _ (T0.setTop (mkF m 12 #[.val (.int q1)] [(.int (1 : Int32))]))
  exact own_retN X0 hx hlk (t := .boolean) hret (by simp) (hb hby d9_12) (by decide) (by decide) (⟨rfl, rfl, e0⟩)
theorem d10_0 : decode jdk_43_method_46_code 0 = .ok (.iconst 1, 1) := by decide +kernel
theorem d10_1 : decode jdk_43_method_46_code 1 = .ok (.newarray .byte, 2) := by decide +kernel
theorem d10_3 : decode jdk_43_method_46_code 3 = .ok (.dup, 1) := by decide +kernel
theorem d10_4 : decode jdk_43_method_46_code 4 = .ok (.iconst 0, 1) := by decide +kernel
theorem d10_5 : decode jdk_43_method_46_code 5 = .ok (.iload_n 0, 1) := by decide +kernel
theorem d10_6 : decode jdk_43_method_46_code 6 = .ok (.i2b, 1) := by decide +kernel
theorem d10_7 : decode jdk_43_method_46_code 7 = .ok (.bastore, 1) := by decide +kernel
theorem d10_8 : decode jdk_43_method_46_code 8 = .ok (.areturn, 1) := by decide +kernel
theorem ef_10_I (m : MethodId) (x0 : Int32) : entryFrame m #[(.int x0)] 1 = mkF m 0 #[.val (.int x0)] [] := by first | (simp [entryFrame, mkF, argsToLocals, Value.category]; done) | rfl
set_option maxRecDepth 65536 in
set_option maxHeartbeats 40000000 in
theorem sc10 (l : Launch) (Z : State) (a0 : Array Value) (hw : ∀ d ∈ tables_1, d.before a0 Z = true) (q1 : Int32) (h0 : Heap) (n0 : Nat) (Z0 : n0 ≤ h0.size) :
    OMet l Z (⟨"java/lang/StringLatin1", "toBytes", "(C)[B"⟩ : MethodName) jdk_43_method_46_code 1 (some (.array .byte)) [] ({ frames := 0, cells := 1, slots := 1, locals := 0 } : Room) #[(.int q1)] h0 (fun v h' L => ∃ t1 : Addr, v = some (.ref t1) ∧ Fr n0 L ∧ Keep h0 h' [] ∧ h0.size ≤ t1 ∧ OAr Z h' t1 .byte 1 (fun j => .int (own_lb ((fun _ => q1) j)))) := by
  refine own_body (plainFor_of_name pn_java_lang_StringLatin1) (fun m => ef_10_I m q1) ?_
  intro p e s m below meth c T0 hx hby hml hown hnm hret hlk hZ X0 e0
  have hown : s.vm.findClass "java/lang/StringLatin1" = some m.cls := hown
  have hml : c.maxLocals = 1 := hml
  have N0 := Fr.nil n0
  have K0 := Keep.refl h0 []
  show OGo p e below s _ _ (T0.setTop (mkF m 0 #[.val (.int q1)] []))
  refine own_st (fun t k => XS.iconst X0.here hx rfl (hb hby d10_0) k) ?_
  show OGo p e below s _ _ (T0.setTop (mkF m 1 #[.val (.int q1)] [(.int (1 : Int32))]))
  obtain ⟨T17, hp17, kk17, X17, e17, Ex17, Aa17, st17⟩ := newP X0 hx hZ (hw _ (List.mem_of_getElem? (i := 27) rfl)) e0 (g := (mkF m 1 #[.val (.int q1)] [(.int (1 : Int32))])) rfl (hb hby d10_1) rfl (by decide) (cap := 1) (by decide) (by decide) (by decide) (by decide)
  obtain ⟨t1, gs17⟩ : ∃ z, z = h0.size := ⟨_, rfl⟩
  rw [← gs17] at Aa17 st17
  have old_t1 : n0 ≤ t1 := Nat.le_trans Z0 (Nat.le_of_eq gs17.symm)
  have fr_t1 : h0.size ≤ t1 := Nat.le_trans K0.1 (Nat.le_of_eq gs17.symm)
  have K0 := K0.ext Ex17
  have Z0 := Nat.le_trans Z0 Ex17.1
  have A_t1 := OAr.new Aa17
  refine own_st st17 ?_
  show OGo p e below s _ _ (T17.setTop (mkF m 3 #[.val (.int q1)] [(.ref t1)]))
  refine own_st (fun t k => XS.dup X17.here hx rfl (hb hby d10_3) rfl rfl k) ?_
  show OGo p e below s _ _ (T17.setTop (mkF m 4 #[.val (.int q1)] [(.ref t1), (.ref t1)]))
  refine own_st (fun t k => XS.iconst X17.here hx rfl (hb hby d10_4) k) ?_
  show OGo p e below s _ _ (T17.setTop (mkF m 5 #[.val (.int q1)] [(.int (0 : Int32)), (.ref t1), (.ref t1)]))
  refine own_st (fun t k => XS.iloadN X17.here hx rfl (hb hby d10_5) rfl k) ?_
  show OGo p e below s _ _ (T17.setTop (mkF m 6 #[.val (.int q1)] [(.int q1), (.int (0 : Int32)), (.ref t1), (.ref t1)]))
  refine own_st (fun t k => XS.i2b X17.here hx rfl (hb hby d10_6) rfl k) ?_
  show OGo p e below s _ _ (T17.setTop (mkF m 7 #[.val (.int q1)] [(.int q1.toInt8.toInt32), (.int (0 : Int32)), (.ref t1), (.ref t1)]))
  obtain ⟨cl18, Ar18, Sz18, Hh18⟩ := id A_t1
  obtain ⟨T18, hp18, X18, e18, Ww18, st18⟩ := stB X17 hx hZ e17 Ar18 (j := (0 : Int32)) (own_in Sz18 (by decide) (by decide)) (g := (mkF m 7 #[.val (.int q1)] [(.int q1.toInt8.toInt32), (.int (0 : Int32)), (.ref t1), (.ref t1)])) rfl rfl (hb hby d10_7)
  have Nf18 := Fr.snoc X18 N0 old_t1
  have Z0 := Nat.le_trans Z0 (Keep.of_wr Ww18).1
  have K0 := K0.wr Ww18 (Or.inr fr_t1)
  have A_t1 := OAr.set Ar18 Sz18 Hh18 Ww18
  refine own_st st18 ?_
  show OGo p e below s _ _ (T18.setTop (mkF m 8 #[.val (.int q1)] [(.ref t1)]))
  have A_t1 : OAr Z hp18 t1 .byte 1 (fun j => .int (own_lb ((fun _ => q1) j))) := A_t1.cong (fun j hj => by
    have : j = 0 := by have : j < 1 := hj; omega
    subst this; rfl)
  exact own_retA X18 hx hlk hret rfl rfl (hb hby d10_8) (by decide) (by decide) (⟨t1, rfl, Nf18, (by rw [e18]; exact K0), fr_t1, (by rw [e18]; exact A_t1)⟩)
theorem d8_0 : decode jdk_42_method_139_code 0 = .ok (.getstatic 38, 3) := by decide +kernel
theorem d8_3 : decode jdk_42_method_139_code 3 = .ok (.ifCond .eq 23, 3) := by decide +kernel
theorem d8_6 : decode jdk_42_method_139_code 6 = .ok (.iload_n 0, 1) := by decide +kernel
theorem d8_7 : decode jdk_42_method_139_code 7 = .ok (.invokestatic 1015, 3) := by decide +kernel
theorem pd_4 : parseMethodDescriptor "(C)Z" = some ⟨[.char], some .boolean⟩ := by decide +kernel
theorem d8_10 : decode jdk_42_method_139_code 10 = .ok (.ifCond .eq 16, 3) := by decide +kernel
theorem d8_13 : decode jdk_42_method_139_code 13 = .ok (.new 10, 3) := by decide +kernel
theorem d8_16 : decode jdk_42_method_139_code 16 = .ok (.dup, 1) := by decide +kernel
theorem d8_17 : decode jdk_42_method_139_code 17 = .ok (.iload_n 0, 1) := by decide +kernel
theorem d8_18 : decode jdk_42_method_139_code 18 = .ok (.invokestatic 1018, 3) := by decide +kernel
theorem pd_5 : parseMethodDescriptor "(C)[B" = some ⟨[.char], some (.array .byte)⟩ := by decide +kernel
theorem d8_21 : decode jdk_42_method_139_code 21 = .ok (.iconst 0, 1) := by decide +kernel
theorem d8_22 : decode jdk_42_method_139_code 22 = .ok (.invokespecial 209, 3) := by decide +kernel
theorem pd_6 : parseMethodDescriptor "([BB)V" = some ⟨[(.array .byte), .byte], none⟩ := by decide +kernel
theorem d8_25 : decode jdk_42_method_139_code 25 = .ok (.areturn, 1) := by decide +kernel
theorem ef_8_I (m : MethodId) (x0 : Int32) : entryFrame m #[(.int x0)] 1 = mkF m 0 #[.val (.int x0)] [] := by first | (simp [entryFrame, mkF, argsToLocals, Value.category]; done) | rfl
set_option maxRecDepth 65536 in
set_option maxHeartbeats 40000000 in
theorem sc11 (l : Launch) (Z : State) (a0 : Array Value) (hw : ∀ d ∈ tables_1, d.before a0 Z = true) (q1 : Int32) (cs : Int32) (h0 : Heap) (n0 : Nat) (Z0 : n0 ≤ h0.size) (S_COMPACT_STRINGS : Sta Z h0 "java/lang/String" "COMPACT_STRINGS" "Z" (.int cs)) (hcs : ¬ cs = (0 : Int32)) (hq : ¬ (255 : Int32) < q1) :
    OMet l Z (⟨"java/lang/String", "valueOf", "(C)Ljava/lang/String;"⟩ : MethodName) jdk_42_method_139_code 1 (some (.object "java/lang/String")) [] ({ frames := 2, cells := 2, slots := 5, locals := 27 } : Room) #[(.int q1)] h0 (fun v h' L => ∃ b1 t1 : Addr, v = some (.ref b1) ∧ Fr n0 L ∧ Keep h0 h' [] ∧ h0.size ≤ b1 ∧ h0.size ≤ t1 ∧ b1 ≠ t1 ∧ Exa Z h' b1 "java/lang/String" ∧ Fld Z h' b1 "java/lang/String" "coder" "B" (.int (0 : Int32)) ∧ Fld Z h' b1 "java/lang/String" "value" "[B" (.ref t1) ∧ OAr Z h' t1 .byte 1 (fun j => .int (own_lb ((fun _ => q1) j)))) := by
  refine own_body (plainFor_of_name pn_java_lang_String) (fun m => ef_8_I m q1) ?_
  intro p e s m below meth c T0 hx hby hml hown hnm hret hlk hZ X0 e0
  have hown : s.vm.findClass "java/lang/String" = some m.cls := hown
  have hml : c.maxLocals = 1 := hml
  have N0 := Fr.nil n0
  have K0 := Keep.refl h0 []
  show OGo p e below s _ _ (T0.setTop (mkF m 0 #[.val (.int q1)] []))
  obtain ⟨T19, X19, e19, st19⟩ := getS2 X0 hx hZ hown (host := "") (Or.inl (hw _ (List.mem_of_getElem? (i := 22) rfl))) Via.refl e0 S_COMPACT_STRINGS (g := (mkF m 0 #[.val (.int q1)] [])) rfl (hb hby d8_0)
  refine own_st st19 ?_
  show OGo p e below s _ _ (T19.setTop (mkF m 3 #[.val (.int q1)] [(.int cs)]))
  refine own_st (fun t k => XS.ifNo X19.here hx rfl (hb hby d8_3) rfl ((if0 _ _).trans (feq (hcs)).1) k) ?_
  show OGo p e below s _ _ (T19.setTop (mkF m 6 #[.val (.int q1)] []))
  refine own_st (fun t k => XS.iloadN X19.here hx rfl (hb hby d8_6) rfl k) ?_
  show OGo p e below s _ _ (T19.setTop (mkF m 7 #[.val (.int q1)] [(.int q1)]))
  obtain ⟨T20, X20, e20, st20⟩ := own_callSP X19 hx hZ (y := (⟨"java/lang/StringLatin1", "canEncode", "(C)Z"⟩ : MethodName)) (W := 0) hown (hw _ (List.mem_of_getElem? (i := 41) rfl)) (hw _ (List.mem_of_getElem? (i := 42) rfl)) (hw _ (List.mem_of_getElem? (i := 43) rfl)) (hw _ (List.mem_of_getElem? (i := 44) rfl)) (by decide) (sc9 l Z a0 hw q1 h0 hq) (by decide) (by decide) (g := (mkF m 7 #[.val (.int q1)] [(.int q1)])) rfl (by rw [hml]; rfl) (argsL := [(.int q1)]) (rest := []) (lenOf pd_4 rfl) rfl (by show 2 * 0 + _ ≤ _; exact Nat.le_of_eq rfl) (hb hby d8_7) rfl e19 (by decide) (by decide)
  refine own_st st20 ?_
  show OGo p e below s _ _ (T20.setTop (mkF m 10 #[.val (.int q1)] [(.int (1 : Int32))]))
  refine own_st (fun t k => XS.ifNo X20.here hx rfl (hb hby d8_10) rfl ((if0 _ _).trans (feq ((by decide : ¬ (1 : Int32) = (0 : Int32)))).1) k) ?_
  show OGo p e below s _ _ (T20.setTop (mkF m 13 #[.val (.int q1)] []))
  obtain ⟨T21, hp21, X21, e21, Ex21, Aa21, Dd21, -, st21⟩ := newO X20 hx hZ hown (hw _ (List.mem_of_getElem? (i := 45) rfl)) (hw _ (List.mem_of_getElem? (i := 10) rfl)) (hw _ (List.mem_of_getElem? (i := 11) rfl)) e20 (g := (mkF m 13 #[.val (.int q1)] [])) rfl (hb hby d8_13) (by decide) (by decide)
  obtain ⟨b1, gs21⟩ : ∃ z, z = h0.size := ⟨_, rfl⟩
  rw [← gs21] at Aa21 Dd21 st21
  have old_b1 : n0 ≤ b1 := Nat.le_trans Z0 (Nat.le_of_eq gs21.symm)
  have fr_b1 : h0.size ≤ b1 := Nat.le_trans K0.1 (Nat.le_of_eq gs21.symm)
  have K0 := K0.ext Ex21
  have Z0 := Nat.le_trans Z0 Ex21.1
  have S_COMPACT_STRINGS := S_COMPACT_STRINGS.ext Ex21
  have E_b1 := Aa21
  have F_coder_b1 : Fld Z hp21 b1 "java/lang/String" "coder" "B" (.int (0 : Int32)) := Dd21 (Or.inr (hw _ (List.mem_of_getElem? (i := 35) rfl))) (ty := .byte) (by decide)
  have F_value_b1 : Fld Z hp21 b1 "java/lang/String" "value" "[B" .null := Dd21 (Or.inr (hw _ (List.mem_of_getElem? (i := 37) rfl))) (ty := (.array .byte)) (by decide)
  refine own_st st21 ?_
  show OGo p e below s _ _ (T21.setTop (mkF m 16 #[.val (.int q1)] [(.ref b1)]))
  refine own_st (fun t k => XS.dup X21.here hx rfl (hb hby d8_16) rfl rfl k) ?_
  show OGo p e below s _ _ (T21.setTop (mkF m 17 #[.val (.int q1)] [(.ref b1), (.ref b1)]))
  refine own_st (fun t k => XS.iloadN X21.here hx rfl (hb hby d8_17) rfl k) ?_
  show OGo p e below s _ _ (T21.setTop (mkF m 18 #[.val (.int q1)] [(.int q1), (.ref b1), (.ref b1)]))
  obtain ⟨_, T22, Lc22, X22, hQ22, st22⟩ := own_callS X21 hx hZ (y := (⟨"java/lang/StringLatin1", "toBytes", "(C)[B"⟩ : MethodName)) (W := 2) hown (hw _ (List.mem_of_getElem? (i := 46) rfl)) (hw _ (List.mem_of_getElem? (i := 47) rfl)) (hw _ (List.mem_of_getElem? (i := 43) rfl)) (hw _ (List.mem_of_getElem? (i := 48) rfl)) (by decide) (sc10 l Z a0 hw q1 hp21 n0 Z0) (by decide) (by decide) (g := (mkF m 18 #[.val (.int q1)] [(.int q1), (.ref b1), (.ref b1)])) rfl (by rw [hml]; rfl) (argsL := [(.int q1)]) (rest := [(.ref b1), (.ref b1)]) (lenOf pd_5 rfl) rfl (by show 2 * 0 + _ ≤ _; exact Nat.le_of_eq rfl) (hb hby d8_18) rfl e21 (by decide) (by decide)
  obtain ⟨t1, rfl, Nq22, Kq22, fq22_t1, q22_0⟩ := hQ22
  have ne_b1_t1 : b1 ≠ t1 := Nat.ne_of_lt (Nat.lt_of_lt_of_le E_b1.lt fq22_t1)
  have old_t1 : n0 ≤ t1 := Nat.le_trans Z0 fq22_t1
  have fr_t1 : h0.size ≤ t1 := Nat.le_trans K0.1 fq22_t1
  have hpl_Kq22 : ∀ w ∈ ([] : List Addr), ∃ c : Cell, hp21[w]? = some c ∧ c.vm.isStatics = false := all0
  have Z0 := Nat.le_trans Z0 Kq22.1
  have K0 := K0.trans Kq22 all0
  have S_COMPACT_STRINGS := own_sta_keep S_COMPACT_STRINGS Kq22 hpl_Kq22
  have E_b1 := E_b1.keep Kq22
  have F_coder_b1 := F_coder_b1.keep Kq22 nin0
  have F_value_b1 := F_value_b1.keep Kq22 nin0
  have Nr22 := Fr.app N0 Nq22
  have A_t1 := q22_0
  refine own_st st22 ?_
  show OGo p e below s _ _ (T22.setTop (mkF m 21 #[.val (.int q1)] [(.ref t1), (.ref b1), (.ref b1)]))
  refine own_st (fun t k => XS.iconst X22.here hx rfl (hb hby d8_21) k) ?_
  show OGo p e below s _ _ (T22.setTop (mkF m 22 #[.val (.int q1)] [(.int (0 : Int32)), (.ref t1), (.ref b1), (.ref b1)]))
  obtain ⟨_, T23, Lc23, X23, hQ23, st23⟩ := own_callI X22 hx hZ (y := (⟨"java/lang/String", "<init>", "([BB)V"⟩ : MethodName)) (W := 1) rfl hown (hw _ (List.mem_of_getElem? (i := 49) rfl)) (hw _ (List.mem_of_getElem? (i := 50) rfl)) (hw _ (List.mem_of_getElem? (i := 51) rfl)) (hw _ (List.mem_of_getElem? (i := 11) rfl)) (by decide) (sc8 l Z a0 hw b1 t1 T22.heap n0 Z0 old_b1 E_b1 F_coder_b1 F_value_b1) (by decide) (by decide) (a := b1) (g := (mkF m 22 #[.val (.int q1)] [(.int (0 : Int32)), (.ref t1), (.ref b1), (.ref b1)])) rfl (by rw [hml]; rfl) (argsL := [(.ref t1), (.int (0 : Int32))]) (rest := [(.ref b1)]) (lenOf pd_6 rfl) rfl (by show 2 * 0 + _ ≤ _; exact Nat.le_of_eq rfl) (hb hby d8_22) rfl rfl (by decide) (by decide)
  obtain ⟨rfl, Nq23, Kq23, q23_0, q23_1, q23_2⟩ := hQ23
  have hpl_Kq23 : ∀ w ∈ [b1], ∃ c : Cell, T22.heap[w]? = some c ∧ c.vm.isStatics = false := (allS (own_pl_exa E_b1) all0)
  have Z0 := Nat.le_trans Z0 Kq23.1
  have K0 := K0.trans Kq23 (allS (Or.inr fr_b1) all0)
  have S_COMPACT_STRINGS := own_sta_keep S_COMPACT_STRINGS Kq23 hpl_Kq23
  have A_t1 := A_t1.keep Kq23 (ninS (Ne.symm ne_b1_t1) nin0)
  have Nr23 := Fr.app Nr22 Nq23
  have E_b1 := q23_0
  have F_coder_b1 := q23_1
  have F_value_b1 := q23_2
  refine own_st st23 ?_
  show OGo p e below s _ _ (T23.setTop (mkF m 25 #[.val (.int q1)] [(.ref b1)]))
  exact own_retA X23 hx hlk hret rfl rfl (hb hby d8_25) (by decide) (by decide) (⟨b1, t1, rfl, Nr23, K0, fr_b1, fr_t1, (ne_b1_t1), E_b1, F_coder_b1, F_value_b1, A_t1⟩)
def own_c2 (x y : Int32) : Nat → Int32 := fun j => if j = 0 then x else y
theorem own_i2c255 (q : Int32) : ¬ (255 : Int32) < (q &&& (255 : Int32)).toUInt32.toUInt16.toUInt32.toInt32 := by
  rw [i2c_mask]
  have h := c_mask q (255 : Int32) 8 (by decide) (by decide)
  have e : (255 : Int32).toInt = 255 := by decide
  rw [Int32.lt_iff_toInt_lt]; omega
theorem own_255 (q : Int32) : ¬ (255 : Int32) < nar .char (q &&& (255 : Int32)).toUInt32.toUInt16.toUInt32.toInt32 := by
  rw [i2c_mask]
  show ¬ (255 : Int32) < (q &&& (255 : Int32)).toUInt32.toUInt16.toUInt32.toInt32
  exact own_i2c255 q
theorem own_c2le (x y : Int32) (h1 : ¬ (255 : Int32) < x) (h2 : ¬ (255 : Int32) < y) : ∀ j, j < 2 → ¬ (255 : Int32) < own_c2 x y j := fun j _ => by
  unfold own_c2; split
  · exact h1
  · exact h2
def own_pick (i : Int32) (b0 b1 b2 b3 b4 b5 b6 : Addr) : Addr := if i = 0 then b0 else if i = 1 then b1 else if i = 2 then b2 else if i = 3 then b3 else if i = 4 then b4 else if i = 5 then b5 else b6
theorem pn_com_example_plain_keys_plainkeys_key_VerdictRefusedPinLaw : plainName "com/example/plain_keys/plainkeys/key/VerdictRefusedPinLaw" = true := by first | (simp [plainName, overriddenIn]; done) | decide +kernel
theorem ef_1_I (m : MethodId) (x0 : Int32) : entryFrame m #[(.int x0)] 2 = mkF m 0 #[.val (.int x0), .unset] [] := by first | (simp [entryFrame, mkF, argsToLocals, Value.category]; done) | rfl
theorem d1_0 : decode method_2_code 0 = .ok (.iload_n 0, 1) := by decide +kernel
theorem d1_1 : decode method_2_code 1 = .ok (.ldc 7, 2) := by decide +kernel
theorem d1_3 : decode method_2_code 3 = .ok (.iand, 1) := by decide +kernel
theorem d1_4 : decode method_2_code 4 = .ok (.bipush 7, 2) := by decide +kernel
theorem d1_6 : decode method_2_code 6 = .ok (.irem, 1) := by decide +kernel
theorem d1_7 : decode method_2_code 7 = .ok (.istore_n 1, 1) := by decide +kernel
theorem d1_8 : decode method_2_code 8 = .ok (.iload_n 1, 1) := by decide +kernel
theorem d1_9 : decode method_2_code 9 = .ok (.ifCond .ne 7, 3) := by decide +kernel
theorem d1_12 : decode method_2_code 12 = .ok (.getstatic 8, 3) := by decide +kernel
theorem d1_15 : decode method_2_code 15 = .ok (.areturn, 1) := by decide +kernel
theorem d1_16 : decode method_2_code 16 = .ok (.iload_n 1, 1) := by decide +kernel
theorem d1_17 : decode method_2_code 17 = .ok (.iconst 1, 1) := by decide +kernel
theorem d1_18 : decode method_2_code 18 = .ok (.if_icmp .ne 7, 3) := by decide +kernel
theorem d1_21 : decode method_2_code 21 = .ok (.getstatic 14, 3) := by decide +kernel
theorem d1_24 : decode method_2_code 24 = .ok (.areturn, 1) := by decide +kernel
theorem d1_25 : decode method_2_code 25 = .ok (.iload_n 1, 1) := by decide +kernel
theorem d1_26 : decode method_2_code 26 = .ok (.iconst 2, 1) := by decide +kernel
theorem d1_27 : decode method_2_code 27 = .ok (.if_icmp .ne 7, 3) := by decide +kernel
theorem d1_30 : decode method_2_code 30 = .ok (.getstatic 17, 3) := by decide +kernel
theorem d1_33 : decode method_2_code 33 = .ok (.areturn, 1) := by decide +kernel
theorem d1_34 : decode method_2_code 34 = .ok (.iload_n 1, 1) := by decide +kernel
theorem d1_35 : decode method_2_code 35 = .ok (.iconst 3, 1) := by decide +kernel
theorem d1_36 : decode method_2_code 36 = .ok (.if_icmp .ne 7, 3) := by decide +kernel
theorem d1_39 : decode method_2_code 39 = .ok (.getstatic 20, 3) := by decide +kernel
theorem d1_42 : decode method_2_code 42 = .ok (.areturn, 1) := by decide +kernel
theorem d1_43 : decode method_2_code 43 = .ok (.iload_n 1, 1) := by decide +kernel
theorem d1_44 : decode method_2_code 44 = .ok (.iconst 4, 1) := by decide +kernel
theorem d1_45 : decode method_2_code 45 = .ok (.if_icmp .ne 7, 3) := by decide +kernel
theorem d1_48 : decode method_2_code 48 = .ok (.getstatic 23, 3) := by decide +kernel
theorem d1_51 : decode method_2_code 51 = .ok (.areturn, 1) := by decide +kernel
theorem d1_52 : decode method_2_code 52 = .ok (.iload_n 1, 1) := by decide +kernel
theorem d1_53 : decode method_2_code 53 = .ok (.iconst 5, 1) := by decide +kernel
theorem d1_54 : decode method_2_code 54 = .ok (.if_icmp .ne 7, 3) := by decide +kernel
theorem d1_57 : decode method_2_code 57 = .ok (.getstatic 26, 3) := by decide +kernel
theorem d1_60 : decode method_2_code 60 = .ok (.areturn, 1) := by decide +kernel
theorem d1_61 : decode method_2_code 61 = .ok (.getstatic 29, 3) := by decide +kernel
theorem d1_64 : decode method_2_code 64 = .ok (.areturn, 1) := by decide +kernel
set_option maxRecDepth 65536 in
set_option maxHeartbeats 40000000 in
theorem rp (l : Launch) (Z : State) (a0 : Array Value) (hw : ∀ d ∈ tables_1, d.before a0 Z = true) (q1 : Int32) (b0 : Addr) (b1 : Addr) (b2 : Addr) (b3 : Addr) (b4 : Addr) (b5 : Addr) (b6 : Addr) (r : Addr) (h0 : Heap) (S_NO_SUCH_KEY : Sta Z h0 "com/example/plain_keys/plainkeys/key/Refusal" "NO_SUCH_KEY" "Lcom/example/plain_keys/plainkeys/key/Refusal;" (.ref b0)) (S_USED_UP : Sta Z h0 "com/example/plain_keys/plainkeys/key/Refusal" "USED_UP" "Lcom/example/plain_keys/plainkeys/key/Refusal;" (.ref b1)) (S_NOT_YET : Sta Z h0 "com/example/plain_keys/plainkeys/key/Refusal" "NOT_YET" "Lcom/example/plain_keys/plainkeys/key/Refusal;" (.ref b2)) (S_EXPIRED : Sta Z h0 "com/example/plain_keys/plainkeys/key/Refusal" "EXPIRED" "Lcom/example/plain_keys/plainkeys/key/Refusal;" (.ref b3)) (S_REVOKED : Sta Z h0 "com/example/plain_keys/plainkeys/key/Refusal" "REVOKED" "Lcom/example/plain_keys/plainkeys/key/Refusal;" (.ref b4)) (S_OUTSIDE : Sta Z h0 "com/example/plain_keys/plainkeys/key/Refusal" "OUTSIDE" "Lcom/example/plain_keys/plainkeys/key/Refusal;" (.ref b5)) (S_UNCHECKABLE : Sta Z h0 "com/example/plain_keys/plainkeys/key/Refusal" "UNCHECKABLE" "Lcom/example/plain_keys/plainkeys/key/Refusal;" (.ref b6)) (hr : own_pick ((q1 &&& (2147483647 : Int32)) % (7 : Int32)) b0 b1 b2 b3 b4 b5 b6 = r) :
    OPure l Z (⟨"com/example/plain_keys/plainkeys/key/VerdictRefusedPinLaw", "pick", "(I)Lcom/example/plain_keys/plainkeys/key/Refusal;"⟩ : MethodName) method_2_code 2 (some (.object "com/example/plain_keys/plainkeys/key/Refusal")) [] ({ frames := 0, cells := 0, slots := 0, locals := 0 } : Room) #[(.int q1)] h0 (some (.ref r)) := by
  refine own_body (plainFor_of_name pn_com_example_plain_keys_plainkeys_key_VerdictRefusedPinLaw) (fun m => ef_1_I m q1) ?_
  intro p e s m below meth c T0 hx hby hml hown hnm hret hlk hZ X0 e0
  have hown : s.vm.findClass "com/example/plain_keys/plainkeys/key/VerdictRefusedPinLaw" = some m.cls := hown
  have hml : c.maxLocals = 2 := hml
  show OGo p e below s _ _ (T0.setTop (mkF m 0 #[.val (.int q1), .unset] []))
  refine own_st (fun t k => XS.iloadN X0.here hx rfl (hb hby d1_0) rfl k) ?_
  show OGo p e below s _ _ (T0.setTop (mkF m 1 #[.val (.int q1), .unset] [(.int q1)]))
  refine own_st (X0.ldcInt hx hown (mvT hZ (hw _ (List.mem_of_getElem? (i := 4) rfl))) (g := (mkF m 1 #[.val (.int q1), .unset] [(.int q1)])) rfl (hb hby d1_1)) ?_
  show OGo p e below s _ _ (T0.setTop (mkF m 3 #[.val (.int q1), .unset] [(.int (2147483647 : Int32)), (.int q1)]))
  refine own_st (fun t k => XS.iand X0.here hx rfl (hb hby d1_3) rfl k) ?_
  show OGo p e below s _ _ (T0.setTop (mkF m 4 #[.val (.int q1), .unset] [(.int (q1 &&& (2147483647 : Int32)))]))
  refine own_st (fun t k => XS.bipush X0.here hx rfl (hb hby d1_4) k) ?_
  show OGo p e below s _ _ (T0.setTop (mkF m 6 #[.val (.int q1), .unset] [(.int (7 : Int32)), (.int (q1 &&& (2147483647 : Int32)))]))
  refine own_st (fun t k => iremM X0 hx rfl (hb hby d1_6) rfl (by decide) k) ?_
  show OGo p e below s _ _ (T0.setTop (mkF m 7 #[.val (.int q1), .unset] [(.int ((q1 &&& (2147483647 : Int32)) % (7 : Int32)))]))
  generalize (q1 &&& (2147483647 : Int32)) % (7 : Int32) = i at *
  show OGo p e below s _ _ (T0.setTop (mkF m 7 #[.val (.int q1), .unset] [(.int i)]))
  refine own_st (fun t k => XS.istoreN X0.here hx rfl (hb hby d1_7) rfl (l' := #[.val (.int q1), .val (.int i)]) rfl k) ?_
  show OGo p e below s _ _ (T0.setTop (mkF m 8 #[.val (.int q1), .val (.int i)] []))
  refine own_st (fun t k => XS.iloadN X0.here hx rfl (hb hby d1_8) rfl k) ?_
  show OGo p e below s _ _ (T0.setTop (mkF m 9 #[.val (.int q1), .val (.int i)] [(.int i)]))
  by_cases hc9 : i = (0 : Int32)
  · refine own_st (fun t k => XS.ifNo X0.here hx rfl (hb hby d1_9) rfl ((if0 _ _).trans (teq (hc9)).2) k) ?_
    show OGo p e below s _ _ (T0.setTop (mkF m 12 #[.val (.int q1), .val (.int i)] []))
    obtain ⟨T24, X24, e24, st24⟩ := getS2 X0 hx hZ hown (host := "") (Or.inl (hw _ (List.mem_of_getElem? (i := 5) rfl))) Via.refl e0 S_NO_SUCH_KEY (g := (mkF m 12 #[.val (.int q1), .val (.int i)] [])) rfl (hb hby d1_12)
    refine own_st st24 ?_
    show OGo p e below s _ _ (T24.setTop (mkF m 15 #[.val (.int q1), .val (.int i)] [(.ref b0)]))
    exact own_retA X24 hx hlk hret rfl rfl (hb hby d1_15) (by decide) (by decide) (⟨by rw [← hr]; simp [own_pick, hc9], rfl, e24⟩)
  · refine own_st (fun t k => XS.ifYes X0.here hx rfl (pc0 := 9) (pc' := 16) rfl (hb hby d1_9) rfl ((if0 _ _).trans (feq (hc9)).2) (by decide) (by decide) k) ?_
    show OGo p e below s _ _ (T0.setTop (mkF m 16 #[.val (.int q1), .val (.int i)] []))
    refine own_st (fun t k => XS.iloadN X0.here hx rfl (hb hby d1_16) rfl k) ?_
    show OGo p e below s _ _ (T0.setTop (mkF m 17 #[.val (.int q1), .val (.int i)] [(.int i)]))
    refine own_st (fun t k => XS.iconst X0.here hx rfl (hb hby d1_17) k) ?_
    show OGo p e below s _ _ (T0.setTop (mkF m 18 #[.val (.int q1), .val (.int i)] [(.int (1 : Int32)), (.int i)]))
    by_cases hc18 : i = (1 : Int32)
    · refine own_st (fun t k => XS.icmpNo X0.here hx rfl (hb hby d1_18) rfl (teq (hc18)).2 k) ?_
      show OGo p e below s _ _ (T0.setTop (mkF m 21 #[.val (.int q1), .val (.int i)] []))
      obtain ⟨T25, X25, e25, st25⟩ := getS2 X0 hx hZ hown (host := "") (Or.inl (hw _ (List.mem_of_getElem? (i := 159) rfl))) Via.refl e0 S_USED_UP (g := (mkF m 21 #[.val (.int q1), .val (.int i)] [])) rfl (hb hby d1_21)
      refine own_st st25 ?_
      show OGo p e below s _ _ (T25.setTop (mkF m 24 #[.val (.int q1), .val (.int i)] [(.ref b1)]))
      exact own_retA X25 hx hlk hret rfl rfl (hb hby d1_24) (by decide) (by decide) (⟨by rw [← hr]; simp [own_pick, hc9, hc18], rfl, e25⟩)
    · refine own_st (fun t k => XS.icmpYes X0.here hx rfl (pc0 := 18) (pc' := 25) rfl (hb hby d1_18) rfl (feq (hc18)).2 (by decide) (by decide) k) ?_
      show OGo p e below s _ _ (T0.setTop (mkF m 25 #[.val (.int q1), .val (.int i)] []))
      refine own_st (fun t k => XS.iloadN X0.here hx rfl (hb hby d1_25) rfl k) ?_
      show OGo p e below s _ _ (T0.setTop (mkF m 26 #[.val (.int q1), .val (.int i)] [(.int i)]))
      refine own_st (fun t k => XS.iconst X0.here hx rfl (hb hby d1_26) k) ?_
      show OGo p e below s _ _ (T0.setTop (mkF m 27 #[.val (.int q1), .val (.int i)] [(.int (2 : Int32)), (.int i)]))
      by_cases hc27 : i = (2 : Int32)
      · refine own_st (fun t k => XS.icmpNo X0.here hx rfl (hb hby d1_27) rfl (teq (hc27)).2 k) ?_
        show OGo p e below s _ _ (T0.setTop (mkF m 30 #[.val (.int q1), .val (.int i)] []))
        obtain ⟨T26, X26, e26, st26⟩ := getS2 X0 hx hZ hown (host := "") (Or.inl (hw _ (List.mem_of_getElem? (i := 163) rfl))) Via.refl e0 S_NOT_YET (g := (mkF m 30 #[.val (.int q1), .val (.int i)] [])) rfl (hb hby d1_30)
        refine own_st st26 ?_
        show OGo p e below s _ _ (T26.setTop (mkF m 33 #[.val (.int q1), .val (.int i)] [(.ref b2)]))
        exact own_retA X26 hx hlk hret rfl rfl (hb hby d1_33) (by decide) (by decide) (⟨by rw [← hr]; simp [own_pick, hc9, hc18, hc27], rfl, e26⟩)
      · refine own_st (fun t k => XS.icmpYes X0.here hx rfl (pc0 := 27) (pc' := 34) rfl (hb hby d1_27) rfl (feq (hc27)).2 (by decide) (by decide) k) ?_
        show OGo p e below s _ _ (T0.setTop (mkF m 34 #[.val (.int q1), .val (.int i)] []))
        refine own_st (fun t k => XS.iloadN X0.here hx rfl (hb hby d1_34) rfl k) ?_
        show OGo p e below s _ _ (T0.setTop (mkF m 35 #[.val (.int q1), .val (.int i)] [(.int i)]))
        refine own_st (fun t k => XS.iconst X0.here hx rfl (hb hby d1_35) k) ?_
        show OGo p e below s _ _ (T0.setTop (mkF m 36 #[.val (.int q1), .val (.int i)] [(.int (3 : Int32)), (.int i)]))
        by_cases hc36 : i = (3 : Int32)
        · refine own_st (fun t k => XS.icmpNo X0.here hx rfl (hb hby d1_36) rfl (teq (hc36)).2 k) ?_
          show OGo p e below s _ _ (T0.setTop (mkF m 39 #[.val (.int q1), .val (.int i)] []))
          obtain ⟨T27, X27, e27, st27⟩ := getS2 X0 hx hZ hown (host := "") (Or.inl (hw _ (List.mem_of_getElem? (i := 149) rfl))) Via.refl e0 S_EXPIRED (g := (mkF m 39 #[.val (.int q1), .val (.int i)] [])) rfl (hb hby d1_39)
          refine own_st st27 ?_
          show OGo p e below s _ _ (T27.setTop (mkF m 42 #[.val (.int q1), .val (.int i)] [(.ref b3)]))
          exact own_retA X27 hx hlk hret rfl rfl (hb hby d1_42) (by decide) (by decide) (⟨by rw [← hr]; simp [own_pick, hc9, hc18, hc27, hc36], rfl, e27⟩)
        · refine own_st (fun t k => XS.icmpYes X0.here hx rfl (pc0 := 36) (pc' := 43) rfl (hb hby d1_36) rfl (feq (hc36)).2 (by decide) (by decide) k) ?_
          show OGo p e below s _ _ (T0.setTop (mkF m 43 #[.val (.int q1), .val (.int i)] []))
          refine own_st (fun t k => XS.iloadN X0.here hx rfl (hb hby d1_43) rfl k) ?_
          show OGo p e below s _ _ (T0.setTop (mkF m 44 #[.val (.int q1), .val (.int i)] [(.int i)]))
          refine own_st (fun t k => XS.iconst X0.here hx rfl (hb hby d1_44) k) ?_
          show OGo p e below s _ _ (T0.setTop (mkF m 45 #[.val (.int q1), .val (.int i)] [(.int (4 : Int32)), (.int i)]))
          by_cases hc45 : i = (4 : Int32)
          · refine own_st (fun t k => XS.icmpNo X0.here hx rfl (hb hby d1_45) rfl (teq (hc45)).2 k) ?_
            show OGo p e below s _ _ (T0.setTop (mkF m 48 #[.val (.int q1), .val (.int i)] []))
            obtain ⟨T28, X28, e28, st28⟩ := getS2 X0 hx hZ hown (host := "") (Or.inl (hw _ (List.mem_of_getElem? (i := 165) rfl))) Via.refl e0 S_REVOKED (g := (mkF m 48 #[.val (.int q1), .val (.int i)] [])) rfl (hb hby d1_48)
            refine own_st st28 ?_
            show OGo p e below s _ _ (T28.setTop (mkF m 51 #[.val (.int q1), .val (.int i)] [(.ref b4)]))
            exact own_retA X28 hx hlk hret rfl rfl (hb hby d1_51) (by decide) (by decide) (⟨by rw [← hr]; simp [own_pick, hc9, hc18, hc27, hc36, hc45], rfl, e28⟩)
          · refine own_st (fun t k => XS.icmpYes X0.here hx rfl (pc0 := 45) (pc' := 52) rfl (hb hby d1_45) rfl (feq (hc45)).2 (by decide) (by decide) k) ?_
            show OGo p e below s _ _ (T0.setTop (mkF m 52 #[.val (.int q1), .val (.int i)] []))
            refine own_st (fun t k => XS.iloadN X0.here hx rfl (hb hby d1_52) rfl k) ?_
            show OGo p e below s _ _ (T0.setTop (mkF m 53 #[.val (.int q1), .val (.int i)] [(.int i)]))
            refine own_st (fun t k => XS.iconst X0.here hx rfl (hb hby d1_53) k) ?_
            show OGo p e below s _ _ (T0.setTop (mkF m 54 #[.val (.int q1), .val (.int i)] [(.int (5 : Int32)), (.int i)]))
            by_cases hc54 : i = (5 : Int32)
            · refine own_st (fun t k => XS.icmpNo X0.here hx rfl (hb hby d1_54) rfl (teq (hc54)).2 k) ?_
              show OGo p e below s _ _ (T0.setTop (mkF m 57 #[.val (.int q1), .val (.int i)] []))
              obtain ⟨T29, X29, e29, st29⟩ := getS2 X0 hx hZ hown (host := "") (Or.inl (hw _ (List.mem_of_getElem? (i := 157) rfl))) Via.refl e0 S_OUTSIDE (g := (mkF m 57 #[.val (.int q1), .val (.int i)] [])) rfl (hb hby d1_57)
              refine own_st st29 ?_
              show OGo p e below s _ _ (T29.setTop (mkF m 60 #[.val (.int q1), .val (.int i)] [(.ref b5)]))
              exact own_retA X29 hx hlk hret rfl rfl (hb hby d1_60) (by decide) (by decide) (⟨by rw [← hr]; simp [own_pick, hc9, hc18, hc27, hc36, hc45, hc54], rfl, e29⟩)
            · refine own_st (fun t k => XS.icmpYes X0.here hx rfl (pc0 := 54) (pc' := 61) rfl (hb hby d1_54) rfl (feq (hc54)).2 (by decide) (by decide) k) ?_
              show OGo p e below s _ _ (T0.setTop (mkF m 61 #[.val (.int q1), .val (.int i)] []))
              obtain ⟨T30, X30, e30, st30⟩ := getS2 X0 hx hZ hown (host := "") (Or.inl (hw _ (List.mem_of_getElem? (i := 161) rfl))) Via.refl e0 S_UNCHECKABLE (g := (mkF m 61 #[.val (.int q1), .val (.int i)] [])) rfl (hb hby d1_61)
              refine own_st st30 ?_
              show OGo p e below s _ _ (T30.setTop (mkF m 64 #[.val (.int q1), .val (.int i)] [(.ref b6)]))
              exact own_retA X30 hx hlk hret rfl rfl (hb hby d1_64) (by decide) (by decide) (⟨by rw [← hr]; simp [own_pick, hc9, hc18, hc27, hc36, hc45, hc54], rfl, e30⟩)
theorem d13_0 : decode jdk_30_method_1_code 0 = .ok (.aload_n 0, 1) := by decide +kernel
theorem d13_1 : decode jdk_30_method_1_code 1 = .ok (.invokespecial 1, 3) := by decide +kernel
theorem d13_4 : decode jdk_30_method_1_code 4 = .ok (.return_, 1) := by decide +kernel
theorem pn_java_lang_Record : plainName "java/lang/Record" = true := by first | (simp [plainName, overriddenIn]; done) | decide +kernel
theorem ef_13_R (m : MethodId) (x0 : Addr) : entryFrame m #[(.ref x0)] 1 = mkF m 0 #[.val (.ref x0)] [] := by first | (simp [entryFrame, mkF, argsToLocals, Value.category]; done) | rfl
set_option maxRecDepth 65536 in
set_option maxHeartbeats 40000000 in
theorem rr (l : Launch) (Z : State) (a0 : Array Value) (hw : ∀ d ∈ tables_1, d.before a0 Z = true) (a1 : Addr) (h0 : Heap) :
    OPure l Z (⟨"java/lang/Record", "<init>", "()V"⟩ : MethodName) jdk_30_method_1_code 1 none [] ({ frames := 1, cells := 0, slots := 0, locals := 12 } : Room) #[(.ref a1)] h0 (none) := by
  refine own_body (plainFor_of_name pn_java_lang_Record) (fun m => ef_13_R m a1) ?_
  intro p e s m below meth c T0 hx hby hml hown hnm hret hlk hZ X0 e0
  have hown : s.vm.findClass "java/lang/Record" = some m.cls := hown
  have hml : c.maxLocals = 1 := hml
  show OGo p e below s _ _ (T0.setTop (mkF m 0 #[.val (.ref a1)] []))
  refine own_st (fun t k => XS.aloadN X0.here hx rfl (hb hby d13_0) rfl rfl k) ?_
  show OGo p e below s _ _ (T0.setTop (mkF m 1 #[.val (.ref a1)] [(.ref a1)]))
  obtain ⟨T31, X31, e31, st31⟩ := initO X0 hx hZ hown (hw _ (List.mem_of_getElem? (i := 63) rfl)) (hw _ (List.mem_of_getElem? (i := 20) rfl)) (hw _ (List.mem_of_getElem? (i := 21) rfl)) e0 (g := (mkF m 1 #[.val (.ref a1)] [(.ref a1)])) rfl (by rw [hml]; rfl) rfl (hb hby d13_1) (by decide) (W := 0) (by show 2 * 0 + _ ≤ _; exact Nat.le_of_eq rfl) (by decide)
  refine own_st st31 ?_
  show OGo p e below s _ _ (T31.setTop (mkF m 4 #[.val (.ref a1)] []))
  exact own_retV X31 hx hlk hret (hb hby d13_4) (by decide) (by decide) (⟨rfl, rfl, e31⟩)
theorem d12_0 : decode prog_14_method_1_code 0 = .ok (.aload_n 0, 1) := by decide +kernel
theorem d12_1 : decode prog_14_method_1_code 1 = .ok (.invokespecial 1, 3) := by decide +kernel
theorem pd_7 : parseMethodDescriptor "()V" = some ⟨[], none⟩ := by decide +kernel
theorem d12_4 : decode prog_14_method_1_code 4 = .ok (.aload_n 0, 1) := by decide +kernel
theorem d12_5 : decode prog_14_method_1_code 5 = .ok (.aload_n 1, 1) := by decide +kernel
theorem d12_6 : decode prog_14_method_1_code 6 = .ok (.putfield 7, 3) := by decide +kernel
theorem d12_9 : decode prog_14_method_1_code 9 = .ok (.aload_n 0, 1) := by decide +kernel
theorem d12_10 : decode prog_14_method_1_code 10 = .ok (.aload_n 2, 1) := by decide +kernel
theorem d12_11 : decode prog_14_method_1_code 11 = .ok (.putfield 13, 3) := by decide +kernel
theorem d12_14 : decode prog_14_method_1_code 14 = .ok (.aload_n 0, 1) := by decide +kernel
theorem d12_15 : decode prog_14_method_1_code 15 = .ok (.aload_n 3, 1) := by decide +kernel
theorem d12_16 : decode prog_14_method_1_code 16 = .ok (.putfield 16, 3) := by decide +kernel
theorem d12_19 : decode prog_14_method_1_code 19 = .ok (.return_, 1) := by decide +kernel
theorem pn_com_example_plain_keys_plainkeys_key_KeyName : plainName "com/example/plain_keys/plainkeys/key/KeyName" = true := by first | (simp [plainName, overriddenIn]; done) | decide +kernel
theorem ef_12_RRRR (m : MethodId) (x0 : Addr) (x1 : Addr) (x2 : Addr) (x3 : Addr) : entryFrame m #[(.ref x0), (.ref x1), (.ref x2), (.ref x3)] 4 = mkF m 0 #[.val (.ref x0), .val (.ref x1), .val (.ref x2), .val (.ref x3)] [] := by first | (simp [entryFrame, mkF, argsToLocals, Value.category]; done) | rfl
set_option maxRecDepth 65536 in
set_option maxHeartbeats 40000000 in
theorem rk (l : Launch) (Z : State) (a0 : Array Value) (hw : ∀ d ∈ tables_1, d.before a0 Z = true) (a1 : Addr) (a2 : Addr) (a3 : Addr) (a4 : Addr) (h0 : Heap) (n0 : Nat) (Z0 : n0 ≤ h0.size) (old_a1 : n0 ≤ a1) (E_a1 : Exa Z h0 a1 "com/example/plain_keys/plainkeys/key/KeyName") (F_site_a1 : Fld Z h0 a1 "com/example/plain_keys/plainkeys/key/KeyName" "site" "Ljava/lang/String;" .null) (F_identifier_a1 : Fld Z h0 a1 "com/example/plain_keys/plainkeys/key/KeyName" "identifier" "Ljava/lang/String;" .null) (F_sig_a1 : Fld Z h0 a1 "com/example/plain_keys/plainkeys/key/KeyName" "sig" "Ljava/lang/String;" .null) :
    OMet l Z (⟨"com/example/plain_keys/plainkeys/key/KeyName", "<init>", "(Ljava/lang/String;Ljava/lang/String;Ljava/lang/String;)V"⟩ : MethodName) prog_14_method_1_code 4 none [] ({ frames := 2, cells := 0, slots := 0, locals := 24 } : Room) #[(.ref a1), (.ref a2), (.ref a3), (.ref a4)] h0 (fun v h' L => v = none ∧ Fr n0 L ∧ Keep h0 h' [a1] ∧ Exa Z h' a1 "com/example/plain_keys/plainkeys/key/KeyName") := by
  refine own_body (plainFor_of_name pn_com_example_plain_keys_plainkeys_key_KeyName) (fun m => ef_12_RRRR m a1 a2 a3 a4) ?_
  intro p e s m below meth c T0 hx hby hml hown hnm hret hlk hZ X0 e0
  have hown : s.vm.findClass "com/example/plain_keys/plainkeys/key/KeyName" = some m.cls := hown
  have hml : c.maxLocals = 4 := hml
  have N0 := Fr.nil n0
  have K0 := Keep.refl h0 [a1]
  show OGo p e below s _ _ (T0.setTop (mkF m 0 #[.val (.ref a1), .val (.ref a2), .val (.ref a3), .val (.ref a4)] []))
  refine own_st (fun t k => XS.aloadN X0.here hx rfl (hb hby d12_0) rfl rfl k) ?_
  show OGo p e below s _ _ (T0.setTop (mkF m 1 #[.val (.ref a1), .val (.ref a2), .val (.ref a3), .val (.ref a4)] [(.ref a1)]))
  obtain ⟨T32, X32, e32, st32⟩ := own_callIP X0 hx hZ (y := (⟨"java/lang/Record", "<init>", "()V"⟩ : MethodName)) (W := 0) rfl hown (hw _ (List.mem_of_getElem? (i := 58) rfl)) (hw _ (List.mem_of_getElem? (i := 59) rfl)) (hw _ (List.mem_of_getElem? (i := 62) rfl)) (hw _ (List.mem_of_getElem? (i := 61) rfl)) (by decide) (rr l Z a0 hw a1 h0) (by decide) (by decide) (a := a1) (g := (mkF m 1 #[.val (.ref a1), .val (.ref a2), .val (.ref a3), .val (.ref a4)] [(.ref a1)])) rfl (by rw [hml]; rfl) (argsL := []) (rest := []) (lenOf pd_7 rfl) rfl (by show 2 * 0 + _ ≤ _; exact Nat.le_of_eq rfl) (hb hby d12_1) rfl e0 (by decide) (by decide)
  refine own_st st32 ?_
  show OGo p e below s _ _ (T32.setTop (mkF m 4 #[.val (.ref a1), .val (.ref a2), .val (.ref a3), .val (.ref a4)] []))
  refine own_st (fun t k => XS.aloadN X32.here hx rfl (hb hby d12_4) rfl rfl k) ?_
  show OGo p e below s _ _ (T32.setTop (mkF m 5 #[.val (.ref a1), .val (.ref a2), .val (.ref a3), .val (.ref a4)] [(.ref a1)]))
  refine own_st (fun t k => XS.aloadN X32.here hx rfl (hb hby d12_5) rfl rfl k) ?_
  show OGo p e below s _ _ (T32.setTop (mkF m 6 #[.val (.ref a1), .val (.ref a2), .val (.ref a3), .val (.ref a4)] [(.ref a2), (.ref a1)]))
  obtain ⟨T33, hp33, X33, e33, Ww33, st33⟩ := putF X32 hx hZ hown (host := "") (Or.inl (hw _ (List.mem_of_getElem? (i := 64) rfl))) Via.refl e32 F_site_a1 E_a1 (Or.inr ⟨(hw _ (List.mem_of_getElem? (i := 65) rfl)), rfl, hnm⟩) (hw _ (List.mem_of_getElem? (i := 53) rfl)) (ty := (.object "java/lang/String")) (by decide) rfl rfl (g := (mkF m 6 #[.val (.ref a1), .val (.ref a2), .val (.ref a3), .val (.ref a4)] [(.ref a2), (.ref a1)])) rfl rfl (hb hby d12_6)
  have Nf33 := Fr.snoc X33 N0 old_a1
  have Z0 := Nat.le_trans Z0 (Keep.of_wr Ww33).1
  have K0 := K0.wr Ww33 (Or.inl (List.mem_of_getElem? (i := 0) rfl))
  have E_a1 := E_a1.wr Ww33
  have F_site_a1 := F_site_a1.same Ww33
  have F_identifier_a1 := F_identifier_a1.other Ww33 (Or.inr (slot_ne (Or.inr (hw _ (List.mem_of_getElem? (i := 67) rfl))) (Or.inr (hw _ (List.mem_of_getElem? (i := 65) rfl))) (by decide) (t := (.object "java/lang/String")) (t' := (.object "java/lang/String")) (by decide) (by decide)))
  have F_sig_a1 := F_sig_a1.other Ww33 (Or.inr (slot_ne (Or.inr (hw _ (List.mem_of_getElem? (i := 69) rfl))) (Or.inr (hw _ (List.mem_of_getElem? (i := 65) rfl))) (by decide) (t := (.object "java/lang/String")) (t' := (.object "java/lang/String")) (by decide) (by decide)))
  refine own_st st33 ?_
  show OGo p e below s _ _ (T33.setTop (mkF m 9 #[.val (.ref a1), .val (.ref a2), .val (.ref a3), .val (.ref a4)] []))
  refine own_st (fun t k => XS.aloadN X33.here hx rfl (hb hby d12_9) rfl rfl k) ?_
  show OGo p e below s _ _ (T33.setTop (mkF m 10 #[.val (.ref a1), .val (.ref a2), .val (.ref a3), .val (.ref a4)] [(.ref a1)]))
  refine own_st (fun t k => XS.aloadN X33.here hx rfl (hb hby d12_10) rfl rfl k) ?_
  show OGo p e below s _ _ (T33.setTop (mkF m 11 #[.val (.ref a1), .val (.ref a2), .val (.ref a3), .val (.ref a4)] [(.ref a3), (.ref a1)]))
  obtain ⟨T34, hp34, X34, e34, Ww34, st34⟩ := putF X33 hx hZ hown (host := "") (Or.inl (hw _ (List.mem_of_getElem? (i := 66) rfl))) Via.refl e33 F_identifier_a1 E_a1 (Or.inr ⟨(hw _ (List.mem_of_getElem? (i := 67) rfl)), rfl, hnm⟩) (hw _ (List.mem_of_getElem? (i := 53) rfl)) (ty := (.object "java/lang/String")) (by decide) rfl rfl (g := (mkF m 11 #[.val (.ref a1), .val (.ref a2), .val (.ref a3), .val (.ref a4)] [(.ref a3), (.ref a1)])) rfl rfl (hb hby d12_11)
  have Nf34 := Fr.snoc X34 Nf33 old_a1
  have Z0 := Nat.le_trans Z0 (Keep.of_wr Ww34).1
  have K0 := K0.wr Ww34 (Or.inl (List.mem_of_getElem? (i := 0) rfl))
  have E_a1 := E_a1.wr Ww34
  have F_site_a1 := F_site_a1.other Ww34 (Or.inr (slot_ne (Or.inr (hw _ (List.mem_of_getElem? (i := 65) rfl))) (Or.inr (hw _ (List.mem_of_getElem? (i := 67) rfl))) (by decide) (t := (.object "java/lang/String")) (t' := (.object "java/lang/String")) (by decide) (by decide)))
  have F_identifier_a1 := F_identifier_a1.same Ww34
  have F_sig_a1 := F_sig_a1.other Ww34 (Or.inr (slot_ne (Or.inr (hw _ (List.mem_of_getElem? (i := 69) rfl))) (Or.inr (hw _ (List.mem_of_getElem? (i := 67) rfl))) (by decide) (t := (.object "java/lang/String")) (t' := (.object "java/lang/String")) (by decide) (by decide)))
  refine own_st st34 ?_
  show OGo p e below s _ _ (T34.setTop (mkF m 14 #[.val (.ref a1), .val (.ref a2), .val (.ref a3), .val (.ref a4)] []))
  refine own_st (fun t k => XS.aloadN X34.here hx rfl (hb hby d12_14) rfl rfl k) ?_
  show OGo p e below s _ _ (T34.setTop (mkF m 15 #[.val (.ref a1), .val (.ref a2), .val (.ref a3), .val (.ref a4)] [(.ref a1)]))
  refine own_st (fun t k => XS.aloadN X34.here hx rfl (hb hby d12_15) rfl rfl k) ?_
  show OGo p e below s _ _ (T34.setTop (mkF m 16 #[.val (.ref a1), .val (.ref a2), .val (.ref a3), .val (.ref a4)] [(.ref a4), (.ref a1)]))
  obtain ⟨T35, hp35, X35, e35, Ww35, st35⟩ := putF X34 hx hZ hown (host := "") (Or.inl (hw _ (List.mem_of_getElem? (i := 68) rfl))) Via.refl e34 F_sig_a1 E_a1 (Or.inr ⟨(hw _ (List.mem_of_getElem? (i := 69) rfl)), rfl, hnm⟩) (hw _ (List.mem_of_getElem? (i := 53) rfl)) (ty := (.object "java/lang/String")) (by decide) rfl rfl (g := (mkF m 16 #[.val (.ref a1), .val (.ref a2), .val (.ref a3), .val (.ref a4)] [(.ref a4), (.ref a1)])) rfl rfl (hb hby d12_16)
  have Nf35 := Fr.snoc X35 Nf34 old_a1
  have Z0 := Nat.le_trans Z0 (Keep.of_wr Ww35).1
  have K0 := K0.wr Ww35 (Or.inl (List.mem_of_getElem? (i := 0) rfl))
  have E_a1 := E_a1.wr Ww35
  have F_site_a1 := F_site_a1.other Ww35 (Or.inr (slot_ne (Or.inr (hw _ (List.mem_of_getElem? (i := 65) rfl))) (Or.inr (hw _ (List.mem_of_getElem? (i := 69) rfl))) (by decide) (t := (.object "java/lang/String")) (t' := (.object "java/lang/String")) (by decide) (by decide)))
  have F_identifier_a1 := F_identifier_a1.other Ww35 (Or.inr (slot_ne (Or.inr (hw _ (List.mem_of_getElem? (i := 67) rfl))) (Or.inr (hw _ (List.mem_of_getElem? (i := 69) rfl))) (by decide) (t := (.object "java/lang/String")) (t' := (.object "java/lang/String")) (by decide) (by decide)))
  have F_sig_a1 := F_sig_a1.same Ww35
  refine own_st st35 ?_
  show OGo p e below s _ _ (T35.setTop (mkF m 19 #[.val (.ref a1), .val (.ref a2), .val (.ref a3), .val (.ref a4)] []))
  exact own_retV X35 hx hlk hret (hb hby d12_19) (by decide) (by decide) (⟨rfl, Nf35, (by rw [e35]; exact K0), (by rw [e35]; exact E_a1)⟩)
theorem d15_0 : decode prog_24_method_1_code 0 = .ok (.aload_n 0, 1) := by decide +kernel
theorem d15_1 : decode prog_24_method_1_code 1 = .ok (.invokespecial 1, 3) := by decide +kernel
theorem d15_4 : decode prog_24_method_1_code 4 = .ok (.aload_n 0, 1) := by decide +kernel
theorem d15_5 : decode prog_24_method_1_code 5 = .ok (.aload_n 1, 1) := by decide +kernel
theorem d15_6 : decode prog_24_method_1_code 6 = .ok (.putfield 7, 3) := by decide +kernel
theorem d15_9 : decode prog_24_method_1_code 9 = .ok (.aload_n 0, 1) := by decide +kernel
theorem d15_10 : decode prog_24_method_1_code 10 = .ok (.aload_n 2, 1) := by decide +kernel
theorem d15_11 : decode prog_24_method_1_code 11 = .ok (.putfield 13, 3) := by decide +kernel
theorem d15_14 : decode prog_24_method_1_code 14 = .ok (.aload_n 0, 1) := by decide +kernel
theorem d15_15 : decode prog_24_method_1_code 15 = .ok (.lload_n 3, 1) := by decide +kernel
theorem d15_16 : decode prog_24_method_1_code 16 = .ok (.putfield 17, 3) := by decide +kernel
theorem d15_19 : decode prog_24_method_1_code 19 = .ok (.aload_n 0, 1) := by decide +kernel
theorem d15_20 : decode prog_24_method_1_code 20 = .ok (.aload 5, 2) := by decide +kernel
theorem d15_22 : decode prog_24_method_1_code 22 = .ok (.putfield 21, 3) := by decide +kernel
theorem d15_25 : decode prog_24_method_1_code 25 = .ok (.aload_n 0, 1) := by decide +kernel
theorem d15_26 : decode prog_24_method_1_code 26 = .ok (.aload 6, 2) := by decide +kernel
theorem d15_28 : decode prog_24_method_1_code 28 = .ok (.putfield 25, 3) := by decide +kernel
theorem d15_31 : decode prog_24_method_1_code 31 = .ok (.aload_n 0, 1) := by decide +kernel
theorem d15_32 : decode prog_24_method_1_code 32 = .ok (.lload 7, 2) := by decide +kernel
theorem d15_34 : decode prog_24_method_1_code 34 = .ok (.putfield 29, 3) := by decide +kernel
theorem d15_37 : decode prog_24_method_1_code 37 = .ok (.return_, 1) := by decide +kernel
theorem pn_com_example_plain_keys_plainkeys_key_Verdict : plainName "com/example/plain_keys/plainkeys/key/Verdict" = true := by first | (simp [plainName, overriddenIn]; done) | decide +kernel
theorem ef_15_R00J0RJ (m : MethodId) (x0 : Addr) (x3 : Int64) (x5 : Addr) (x6 : Int64) : entryFrame m #[(.ref x0), .null, .null, (.long x3), .null, (.ref x5), (.long x6)] 9 = mkF m 0 #[.val (.ref x0), .val .null, .val .null, .val (.long x3), .second, .val .null, .val (.ref x5), .val (.long x6), .second] [] := by first | (simp [entryFrame, mkF, argsToLocals, Value.category]; done) | rfl
set_option maxRecDepth 65536 in
set_option maxHeartbeats 40000000 in
theorem rv0 (l : Launch) (Z : State) (a0 : Array Value) (hw : ∀ d ∈ tables_1, d.before a0 Z = true) (a1 : Addr) (q4 : Int64) (a6 : Addr) (q7 : Int64) (h0 : Heap) (n0 : Nat) (Z0 : n0 ≤ h0.size) (old_a1 : n0 ≤ a1) (E_a1 : Exa Z h0 a1 "com/example/plain_keys/plainkeys/key/Verdict") (F_key_a1 : Fld Z h0 a1 "com/example/plain_keys/plainkeys/key/Verdict" "key" "Lcom/example/plain_keys/plainkeys/key/Key;" .null) (F_name_a1 : Fld Z h0 a1 "com/example/plain_keys/plainkeys/key/Verdict" "name" "Lcom/example/plain_keys/plainkeys/key/KeyName;" .null) (F_usesLeft_a1 : Fld Z h0 a1 "com/example/plain_keys/plainkeys/key/Verdict" "usesLeft" "J" (.long (0 : Int64))) (F_until_a1 : Fld Z h0 a1 "com/example/plain_keys/plainkeys/key/Verdict" "until" "Ljava/time/Instant;" .null) (F_refusal_a1 : Fld Z h0 a1 "com/example/plain_keys/plainkeys/key/Verdict" "refusal" "Lcom/example/plain_keys/plainkeys/key/Refusal;" .null) (F_entry_a1 : Fld Z h0 a1 "com/example/plain_keys/plainkeys/key/Verdict" "entry" "J" (.long (0 : Int64))) :
    OMet l Z (⟨"com/example/plain_keys/plainkeys/key/Verdict", "<init>", "(Lcom/example/plain_keys/plainkeys/key/Key;Lcom/example/plain_keys/plainkeys/key/KeyName;JLjava/time/Instant;Lcom/example/plain_keys/plainkeys/key/Refusal;J)V"⟩ : MethodName) prog_24_method_1_code 9 none [] ({ frames := 1, cells := 0, slots := 0, locals := 12 } : Room) #[(.ref a1), .null, .null, (.long q4), .null, (.ref a6), (.long q7)] h0 (fun v h' L => v = none ∧ Fr n0 L ∧ Keep h0 h' [a1] ∧ Exa Z h' a1 "com/example/plain_keys/plainkeys/key/Verdict" ∧ Fld Z h' a1 "com/example/plain_keys/plainkeys/key/Verdict" "name" "Lcom/example/plain_keys/plainkeys/key/KeyName;" .null ∧ Fld Z h' a1 "com/example/plain_keys/plainkeys/key/Verdict" "refusal" "Lcom/example/plain_keys/plainkeys/key/Refusal;" (.ref a6) ∧ Fld Z h' a1 "com/example/plain_keys/plainkeys/key/Verdict" "entry" "J" (.long q7)) := by
  refine own_body (plainFor_of_name pn_com_example_plain_keys_plainkeys_key_Verdict) (fun m => ef_15_R00J0RJ m a1 q4 a6 q7) ?_
  intro p e s m below meth c T0 hx hby hml hown hnm hret hlk hZ X0 e0
  have hown : s.vm.findClass "com/example/plain_keys/plainkeys/key/Verdict" = some m.cls := hown
  have hml : c.maxLocals = 9 := hml
  have N0 := Fr.nil n0
  have K0 := Keep.refl h0 [a1]
  show OGo p e below s _ _ (T0.setTop (mkF m 0 #[.val (.ref a1), .val .null, .val .null, .val (.long q4), .second, .val .null, .val (.ref a6), .val (.long q7), .second] []))
  refine own_st (fun t k => XS.aloadN X0.here hx rfl (hb hby d15_0) rfl rfl k) ?_
  show OGo p e below s _ _ (T0.setTop (mkF m 1 #[.val (.ref a1), .val .null, .val .null, .val (.long q4), .second, .val .null, .val (.ref a6), .val (.long q7), .second] [(.ref a1)]))
  obtain ⟨T36, X36, e36, st36⟩ := initO X0 hx hZ hown (hw _ (List.mem_of_getElem? (i := 80) rfl)) (hw _ (List.mem_of_getElem? (i := 20) rfl)) (hw _ (List.mem_of_getElem? (i := 21) rfl)) e0 (g := (mkF m 1 #[.val (.ref a1), .val .null, .val .null, .val (.long q4), .second, .val .null, .val (.ref a6), .val (.long q7), .second] [(.ref a1)])) rfl (by rw [hml]; rfl) rfl (hb hby d15_1) (by decide) (W := 0) (by show 2 * 0 + _ ≤ _; exact Nat.le_of_eq rfl) (by decide)
  refine own_st st36 ?_
  show OGo p e below s _ _ (T36.setTop (mkF m 4 #[.val (.ref a1), .val .null, .val .null, .val (.long q4), .second, .val .null, .val (.ref a6), .val (.long q7), .second] []))
  refine own_st (fun t k => XS.aloadN X36.here hx rfl (hb hby d15_4) rfl rfl k) ?_
  show OGo p e below s _ _ (T36.setTop (mkF m 5 #[.val (.ref a1), .val .null, .val .null, .val (.long q4), .second, .val .null, .val (.ref a6), .val (.long q7), .second] [(.ref a1)]))
  refine own_st (fun t k => XS.aloadN X36.here hx rfl (hb hby d15_5) rfl rfl k) ?_
  show OGo p e below s _ _ (T36.setTop (mkF m 6 #[.val (.ref a1), .val .null, .val .null, .val (.long q4), .second, .val .null, .val (.ref a6), .val (.long q7), .second] [.null, (.ref a1)]))
  obtain ⟨T37, hp37, X37, e37, Ww37, st37⟩ := putF X36 hx hZ hown (host := "") (Or.inl (hw _ (List.mem_of_getElem? (i := 81) rfl))) Via.refl e36 F_key_a1 E_a1 (Or.inr ⟨(hw _ (List.mem_of_getElem? (i := 82) rfl)), rfl, hnm⟩) (hw _ (List.mem_of_getElem? (i := 75) rfl)) (ty := (.object "com/example/plain_keys/plainkeys/key/Key")) (by decide) rfl rfl (g := (mkF m 6 #[.val (.ref a1), .val .null, .val .null, .val (.long q4), .second, .val .null, .val (.ref a6), .val (.long q7), .second] [.null, (.ref a1)])) rfl rfl (hb hby d15_6)
  have Nf37 := Fr.snoc X37 N0 old_a1
  have Z0 := Nat.le_trans Z0 (Keep.of_wr Ww37).1
  have K0 := K0.wr Ww37 (Or.inl (List.mem_of_getElem? (i := 0) rfl))
  have E_a1 := E_a1.wr Ww37
  have F_key_a1 := F_key_a1.same Ww37
  have F_name_a1 := F_name_a1.other Ww37 (Or.inr (slot_ne (Or.inr (hw _ (List.mem_of_getElem? (i := 84) rfl))) (Or.inr (hw _ (List.mem_of_getElem? (i := 82) rfl))) (by decide) (t := (.object "com/example/plain_keys/plainkeys/key/KeyName")) (t' := (.object "com/example/plain_keys/plainkeys/key/Key")) (by decide) (by decide)))
  have F_usesLeft_a1 := F_usesLeft_a1.other Ww37 (Or.inr (slot_ne (Or.inr (hw _ (List.mem_of_getElem? (i := 86) rfl))) (Or.inr (hw _ (List.mem_of_getElem? (i := 82) rfl))) (by decide) (t := .long) (t' := (.object "com/example/plain_keys/plainkeys/key/Key")) (by decide) (by decide)))
  have F_until_a1 := F_until_a1.other Ww37 (Or.inr (slot_ne (Or.inr (hw _ (List.mem_of_getElem? (i := 88) rfl))) (Or.inr (hw _ (List.mem_of_getElem? (i := 82) rfl))) (by decide) (t := (.object "java/time/Instant")) (t' := (.object "com/example/plain_keys/plainkeys/key/Key")) (by decide) (by decide)))
  have F_refusal_a1 := F_refusal_a1.other Ww37 (Or.inr (slot_ne (Or.inr (hw _ (List.mem_of_getElem? (i := 90) rfl))) (Or.inr (hw _ (List.mem_of_getElem? (i := 82) rfl))) (by decide) (t := (.object "com/example/plain_keys/plainkeys/key/Refusal")) (t' := (.object "com/example/plain_keys/plainkeys/key/Key")) (by decide) (by decide)))
  have F_entry_a1 := F_entry_a1.other Ww37 (Or.inr (slot_ne (Or.inr (hw _ (List.mem_of_getElem? (i := 92) rfl))) (Or.inr (hw _ (List.mem_of_getElem? (i := 82) rfl))) (by decide) (t := .long) (t' := (.object "com/example/plain_keys/plainkeys/key/Key")) (by decide) (by decide)))
  refine own_st st37 ?_
  show OGo p e below s _ _ (T37.setTop (mkF m 9 #[.val (.ref a1), .val .null, .val .null, .val (.long q4), .second, .val .null, .val (.ref a6), .val (.long q7), .second] []))
  refine own_st (fun t k => XS.aloadN X37.here hx rfl (hb hby d15_9) rfl rfl k) ?_
  show OGo p e below s _ _ (T37.setTop (mkF m 10 #[.val (.ref a1), .val .null, .val .null, .val (.long q4), .second, .val .null, .val (.ref a6), .val (.long q7), .second] [(.ref a1)]))
  refine own_st (fun t k => XS.aloadN X37.here hx rfl (hb hby d15_10) rfl rfl k) ?_
  show OGo p e below s _ _ (T37.setTop (mkF m 11 #[.val (.ref a1), .val .null, .val .null, .val (.long q4), .second, .val .null, .val (.ref a6), .val (.long q7), .second] [.null, (.ref a1)]))
  obtain ⟨T38, hp38, X38, e38, Ww38, st38⟩ := putF X37 hx hZ hown (host := "") (Or.inl (hw _ (List.mem_of_getElem? (i := 83) rfl))) Via.refl e37 F_name_a1 E_a1 (Or.inr ⟨(hw _ (List.mem_of_getElem? (i := 84) rfl)), rfl, hnm⟩) (hw _ (List.mem_of_getElem? (i := 75) rfl)) (ty := (.object "com/example/plain_keys/plainkeys/key/KeyName")) (by decide) rfl rfl (g := (mkF m 11 #[.val (.ref a1), .val .null, .val .null, .val (.long q4), .second, .val .null, .val (.ref a6), .val (.long q7), .second] [.null, (.ref a1)])) rfl rfl (hb hby d15_11)
  have Nf38 := Fr.snoc X38 Nf37 old_a1
  have Z0 := Nat.le_trans Z0 (Keep.of_wr Ww38).1
  have K0 := K0.wr Ww38 (Or.inl (List.mem_of_getElem? (i := 0) rfl))
  have E_a1 := E_a1.wr Ww38
  have F_key_a1 := F_key_a1.other Ww38 (Or.inr (slot_ne (Or.inr (hw _ (List.mem_of_getElem? (i := 82) rfl))) (Or.inr (hw _ (List.mem_of_getElem? (i := 84) rfl))) (by decide) (t := (.object "com/example/plain_keys/plainkeys/key/Key")) (t' := (.object "com/example/plain_keys/plainkeys/key/KeyName")) (by decide) (by decide)))
  have F_name_a1 := F_name_a1.same Ww38
  have F_usesLeft_a1 := F_usesLeft_a1.other Ww38 (Or.inr (slot_ne (Or.inr (hw _ (List.mem_of_getElem? (i := 86) rfl))) (Or.inr (hw _ (List.mem_of_getElem? (i := 84) rfl))) (by decide) (t := .long) (t' := (.object "com/example/plain_keys/plainkeys/key/KeyName")) (by decide) (by decide)))
  have F_until_a1 := F_until_a1.other Ww38 (Or.inr (slot_ne (Or.inr (hw _ (List.mem_of_getElem? (i := 88) rfl))) (Or.inr (hw _ (List.mem_of_getElem? (i := 84) rfl))) (by decide) (t := (.object "java/time/Instant")) (t' := (.object "com/example/plain_keys/plainkeys/key/KeyName")) (by decide) (by decide)))
  have F_refusal_a1 := F_refusal_a1.other Ww38 (Or.inr (slot_ne (Or.inr (hw _ (List.mem_of_getElem? (i := 90) rfl))) (Or.inr (hw _ (List.mem_of_getElem? (i := 84) rfl))) (by decide) (t := (.object "com/example/plain_keys/plainkeys/key/Refusal")) (t' := (.object "com/example/plain_keys/plainkeys/key/KeyName")) (by decide) (by decide)))
  have F_entry_a1 := F_entry_a1.other Ww38 (Or.inr (slot_ne (Or.inr (hw _ (List.mem_of_getElem? (i := 92) rfl))) (Or.inr (hw _ (List.mem_of_getElem? (i := 84) rfl))) (by decide) (t := .long) (t' := (.object "com/example/plain_keys/plainkeys/key/KeyName")) (by decide) (by decide)))
  refine own_st st38 ?_
  show OGo p e below s _ _ (T38.setTop (mkF m 14 #[.val (.ref a1), .val .null, .val .null, .val (.long q4), .second, .val .null, .val (.ref a6), .val (.long q7), .second] []))
  refine own_st (fun t k => XS.aloadN X38.here hx rfl (hb hby d15_14) rfl rfl k) ?_
  show OGo p e below s _ _ (T38.setTop (mkF m 15 #[.val (.ref a1), .val .null, .val .null, .val (.long q4), .second, .val .null, .val (.ref a6), .val (.long q7), .second] [(.ref a1)]))
  refine own_st (fun t k => XS.lloadN X38.here hx rfl (hb hby d15_15) rfl k) ?_
  show OGo p e below s _ _ (T38.setTop (mkF m 16 #[.val (.ref a1), .val .null, .val .null, .val (.long q4), .second, .val .null, .val (.ref a6), .val (.long q7), .second] [(.long q4), (.ref a1)]))
  obtain ⟨T39, hp39, X39, e39, Ww39, st39⟩ := putF X38 hx hZ hown (host := "") (Or.inl (hw _ (List.mem_of_getElem? (i := 85) rfl))) Via.refl e38 F_usesLeft_a1 E_a1 (Or.inr ⟨(hw _ (List.mem_of_getElem? (i := 86) rfl)), rfl, hnm⟩) (hw _ (List.mem_of_getElem? (i := 75) rfl)) (ty := .long) (by decide) rfl rfl (g := (mkF m 16 #[.val (.ref a1), .val .null, .val .null, .val (.long q4), .second, .val .null, .val (.ref a6), .val (.long q7), .second] [(.long q4), (.ref a1)])) rfl rfl (hb hby d15_16)
  have Nf39 := Fr.snoc X39 Nf38 old_a1
  have Z0 := Nat.le_trans Z0 (Keep.of_wr Ww39).1
  have K0 := K0.wr Ww39 (Or.inl (List.mem_of_getElem? (i := 0) rfl))
  have E_a1 := E_a1.wr Ww39
  have F_key_a1 := F_key_a1.other Ww39 (Or.inr (slot_ne (Or.inr (hw _ (List.mem_of_getElem? (i := 82) rfl))) (Or.inr (hw _ (List.mem_of_getElem? (i := 86) rfl))) (by decide) (t := (.object "com/example/plain_keys/plainkeys/key/Key")) (t' := .long) (by decide) (by decide)))
  have F_name_a1 := F_name_a1.other Ww39 (Or.inr (slot_ne (Or.inr (hw _ (List.mem_of_getElem? (i := 84) rfl))) (Or.inr (hw _ (List.mem_of_getElem? (i := 86) rfl))) (by decide) (t := (.object "com/example/plain_keys/plainkeys/key/KeyName")) (t' := .long) (by decide) (by decide)))
  have F_usesLeft_a1 := F_usesLeft_a1.same Ww39
  have F_until_a1 := F_until_a1.other Ww39 (Or.inr (slot_ne (Or.inr (hw _ (List.mem_of_getElem? (i := 88) rfl))) (Or.inr (hw _ (List.mem_of_getElem? (i := 86) rfl))) (by decide) (t := (.object "java/time/Instant")) (t' := .long) (by decide) (by decide)))
  have F_refusal_a1 := F_refusal_a1.other Ww39 (Or.inr (slot_ne (Or.inr (hw _ (List.mem_of_getElem? (i := 90) rfl))) (Or.inr (hw _ (List.mem_of_getElem? (i := 86) rfl))) (by decide) (t := (.object "com/example/plain_keys/plainkeys/key/Refusal")) (t' := .long) (by decide) (by decide)))
  have F_entry_a1 := F_entry_a1.other Ww39 (Or.inr (slot_ne (Or.inr (hw _ (List.mem_of_getElem? (i := 92) rfl))) (Or.inr (hw _ (List.mem_of_getElem? (i := 86) rfl))) (by decide) (t := .long) (t' := .long) (by decide) (by decide)))
  refine own_st st39 ?_
  show OGo p e below s _ _ (T39.setTop (mkF m 19 #[.val (.ref a1), .val .null, .val .null, .val (.long q4), .second, .val .null, .val (.ref a6), .val (.long q7), .second] []))
  refine own_st (fun t k => XS.aloadN X39.here hx rfl (hb hby d15_19) rfl rfl k) ?_
  show OGo p e below s _ _ (T39.setTop (mkF m 20 #[.val (.ref a1), .val .null, .val .null, .val (.long q4), .second, .val .null, .val (.ref a6), .val (.long q7), .second] [(.ref a1)]))
  refine own_st (fun t k => XS.aload X39.here hx rfl (hb hby d15_20) rfl rfl k) ?_
  show OGo p e below s _ _ (T39.setTop (mkF m 22 #[.val (.ref a1), .val .null, .val .null, .val (.long q4), .second, .val .null, .val (.ref a6), .val (.long q7), .second] [.null, (.ref a1)]))
  obtain ⟨T40, hp40, X40, e40, Ww40, st40⟩ := putF X39 hx hZ hown (host := "") (Or.inl (hw _ (List.mem_of_getElem? (i := 87) rfl))) Via.refl e39 F_until_a1 E_a1 (Or.inr ⟨(hw _ (List.mem_of_getElem? (i := 88) rfl)), rfl, hnm⟩) (hw _ (List.mem_of_getElem? (i := 75) rfl)) (ty := (.object "java/time/Instant")) (by decide) rfl rfl (g := (mkF m 22 #[.val (.ref a1), .val .null, .val .null, .val (.long q4), .second, .val .null, .val (.ref a6), .val (.long q7), .second] [.null, (.ref a1)])) rfl rfl (hb hby d15_22)
  have Nf40 := Fr.snoc X40 Nf39 old_a1
  have Z0 := Nat.le_trans Z0 (Keep.of_wr Ww40).1
  have K0 := K0.wr Ww40 (Or.inl (List.mem_of_getElem? (i := 0) rfl))
  have E_a1 := E_a1.wr Ww40
  have F_key_a1 := F_key_a1.other Ww40 (Or.inr (slot_ne (Or.inr (hw _ (List.mem_of_getElem? (i := 82) rfl))) (Or.inr (hw _ (List.mem_of_getElem? (i := 88) rfl))) (by decide) (t := (.object "com/example/plain_keys/plainkeys/key/Key")) (t' := (.object "java/time/Instant")) (by decide) (by decide)))
  have F_name_a1 := F_name_a1.other Ww40 (Or.inr (slot_ne (Or.inr (hw _ (List.mem_of_getElem? (i := 84) rfl))) (Or.inr (hw _ (List.mem_of_getElem? (i := 88) rfl))) (by decide) (t := (.object "com/example/plain_keys/plainkeys/key/KeyName")) (t' := (.object "java/time/Instant")) (by decide) (by decide)))
  have F_usesLeft_a1 := F_usesLeft_a1.other Ww40 (Or.inr (slot_ne (Or.inr (hw _ (List.mem_of_getElem? (i := 86) rfl))) (Or.inr (hw _ (List.mem_of_getElem? (i := 88) rfl))) (by decide) (t := .long) (t' := (.object "java/time/Instant")) (by decide) (by decide)))
  have F_until_a1 := F_until_a1.same Ww40
  have F_refusal_a1 := F_refusal_a1.other Ww40 (Or.inr (slot_ne (Or.inr (hw _ (List.mem_of_getElem? (i := 90) rfl))) (Or.inr (hw _ (List.mem_of_getElem? (i := 88) rfl))) (by decide) (t := (.object "com/example/plain_keys/plainkeys/key/Refusal")) (t' := (.object "java/time/Instant")) (by decide) (by decide)))
  have F_entry_a1 := F_entry_a1.other Ww40 (Or.inr (slot_ne (Or.inr (hw _ (List.mem_of_getElem? (i := 92) rfl))) (Or.inr (hw _ (List.mem_of_getElem? (i := 88) rfl))) (by decide) (t := .long) (t' := (.object "java/time/Instant")) (by decide) (by decide)))
  refine own_st st40 ?_
  show OGo p e below s _ _ (T40.setTop (mkF m 25 #[.val (.ref a1), .val .null, .val .null, .val (.long q4), .second, .val .null, .val (.ref a6), .val (.long q7), .second] []))
  refine own_st (fun t k => XS.aloadN X40.here hx rfl (hb hby d15_25) rfl rfl k) ?_
  show OGo p e below s _ _ (T40.setTop (mkF m 26 #[.val (.ref a1), .val .null, .val .null, .val (.long q4), .second, .val .null, .val (.ref a6), .val (.long q7), .second] [(.ref a1)]))
  refine own_st (fun t k => XS.aload X40.here hx rfl (hb hby d15_26) rfl rfl k) ?_
  show OGo p e below s _ _ (T40.setTop (mkF m 28 #[.val (.ref a1), .val .null, .val .null, .val (.long q4), .second, .val .null, .val (.ref a6), .val (.long q7), .second] [(.ref a6), (.ref a1)]))
  obtain ⟨T41, hp41, X41, e41, Ww41, st41⟩ := putF X40 hx hZ hown (host := "") (Or.inl (hw _ (List.mem_of_getElem? (i := 89) rfl))) Via.refl e40 F_refusal_a1 E_a1 (Or.inr ⟨(hw _ (List.mem_of_getElem? (i := 90) rfl)), rfl, hnm⟩) (hw _ (List.mem_of_getElem? (i := 75) rfl)) (ty := (.object "com/example/plain_keys/plainkeys/key/Refusal")) (by decide) rfl rfl (g := (mkF m 28 #[.val (.ref a1), .val .null, .val .null, .val (.long q4), .second, .val .null, .val (.ref a6), .val (.long q7), .second] [(.ref a6), (.ref a1)])) rfl rfl (hb hby d15_28)
  have Nf41 := Fr.snoc X41 Nf40 old_a1
  have Z0 := Nat.le_trans Z0 (Keep.of_wr Ww41).1
  have K0 := K0.wr Ww41 (Or.inl (List.mem_of_getElem? (i := 0) rfl))
  have E_a1 := E_a1.wr Ww41
  have F_key_a1 := F_key_a1.other Ww41 (Or.inr (slot_ne (Or.inr (hw _ (List.mem_of_getElem? (i := 82) rfl))) (Or.inr (hw _ (List.mem_of_getElem? (i := 90) rfl))) (by decide) (t := (.object "com/example/plain_keys/plainkeys/key/Key")) (t' := (.object "com/example/plain_keys/plainkeys/key/Refusal")) (by decide) (by decide)))
  have F_name_a1 := F_name_a1.other Ww41 (Or.inr (slot_ne (Or.inr (hw _ (List.mem_of_getElem? (i := 84) rfl))) (Or.inr (hw _ (List.mem_of_getElem? (i := 90) rfl))) (by decide) (t := (.object "com/example/plain_keys/plainkeys/key/KeyName")) (t' := (.object "com/example/plain_keys/plainkeys/key/Refusal")) (by decide) (by decide)))
  have F_usesLeft_a1 := F_usesLeft_a1.other Ww41 (Or.inr (slot_ne (Or.inr (hw _ (List.mem_of_getElem? (i := 86) rfl))) (Or.inr (hw _ (List.mem_of_getElem? (i := 90) rfl))) (by decide) (t := .long) (t' := (.object "com/example/plain_keys/plainkeys/key/Refusal")) (by decide) (by decide)))
  have F_until_a1 := F_until_a1.other Ww41 (Or.inr (slot_ne (Or.inr (hw _ (List.mem_of_getElem? (i := 88) rfl))) (Or.inr (hw _ (List.mem_of_getElem? (i := 90) rfl))) (by decide) (t := (.object "java/time/Instant")) (t' := (.object "com/example/plain_keys/plainkeys/key/Refusal")) (by decide) (by decide)))
  have F_refusal_a1 := F_refusal_a1.same Ww41
  have F_entry_a1 := F_entry_a1.other Ww41 (Or.inr (slot_ne (Or.inr (hw _ (List.mem_of_getElem? (i := 92) rfl))) (Or.inr (hw _ (List.mem_of_getElem? (i := 90) rfl))) (by decide) (t := .long) (t' := (.object "com/example/plain_keys/plainkeys/key/Refusal")) (by decide) (by decide)))
  refine own_st st41 ?_
  show OGo p e below s _ _ (T41.setTop (mkF m 31 #[.val (.ref a1), .val .null, .val .null, .val (.long q4), .second, .val .null, .val (.ref a6), .val (.long q7), .second] []))
  refine own_st (fun t k => XS.aloadN X41.here hx rfl (hb hby d15_31) rfl rfl k) ?_
  show OGo p e below s _ _ (T41.setTop (mkF m 32 #[.val (.ref a1), .val .null, .val .null, .val (.long q4), .second, .val .null, .val (.ref a6), .val (.long q7), .second] [(.ref a1)]))
  refine own_st (fun t k => XS.lload X41.here hx rfl (hb hby d15_32) rfl k) ?_
  show OGo p e below s _ _ (T41.setTop (mkF m 34 #[.val (.ref a1), .val .null, .val .null, .val (.long q4), .second, .val .null, .val (.ref a6), .val (.long q7), .second] [(.long q7), (.ref a1)]))
  obtain ⟨T42, hp42, X42, e42, Ww42, st42⟩ := putF X41 hx hZ hown (host := "") (Or.inl (hw _ (List.mem_of_getElem? (i := 91) rfl))) Via.refl e41 F_entry_a1 E_a1 (Or.inr ⟨(hw _ (List.mem_of_getElem? (i := 92) rfl)), rfl, hnm⟩) (hw _ (List.mem_of_getElem? (i := 75) rfl)) (ty := .long) (by decide) rfl rfl (g := (mkF m 34 #[.val (.ref a1), .val .null, .val .null, .val (.long q4), .second, .val .null, .val (.ref a6), .val (.long q7), .second] [(.long q7), (.ref a1)])) rfl rfl (hb hby d15_34)
  have Nf42 := Fr.snoc X42 Nf41 old_a1
  have Z0 := Nat.le_trans Z0 (Keep.of_wr Ww42).1
  have K0 := K0.wr Ww42 (Or.inl (List.mem_of_getElem? (i := 0) rfl))
  have E_a1 := E_a1.wr Ww42
  have F_key_a1 := F_key_a1.other Ww42 (Or.inr (slot_ne (Or.inr (hw _ (List.mem_of_getElem? (i := 82) rfl))) (Or.inr (hw _ (List.mem_of_getElem? (i := 92) rfl))) (by decide) (t := (.object "com/example/plain_keys/plainkeys/key/Key")) (t' := .long) (by decide) (by decide)))
  have F_name_a1 := F_name_a1.other Ww42 (Or.inr (slot_ne (Or.inr (hw _ (List.mem_of_getElem? (i := 84) rfl))) (Or.inr (hw _ (List.mem_of_getElem? (i := 92) rfl))) (by decide) (t := (.object "com/example/plain_keys/plainkeys/key/KeyName")) (t' := .long) (by decide) (by decide)))
  have F_usesLeft_a1 := F_usesLeft_a1.other Ww42 (Or.inr (slot_ne (Or.inr (hw _ (List.mem_of_getElem? (i := 86) rfl))) (Or.inr (hw _ (List.mem_of_getElem? (i := 92) rfl))) (by decide) (t := .long) (t' := .long) (by decide) (by decide)))
  have F_until_a1 := F_until_a1.other Ww42 (Or.inr (slot_ne (Or.inr (hw _ (List.mem_of_getElem? (i := 88) rfl))) (Or.inr (hw _ (List.mem_of_getElem? (i := 92) rfl))) (by decide) (t := (.object "java/time/Instant")) (t' := .long) (by decide) (by decide)))
  have F_refusal_a1 := F_refusal_a1.other Ww42 (Or.inr (slot_ne (Or.inr (hw _ (List.mem_of_getElem? (i := 90) rfl))) (Or.inr (hw _ (List.mem_of_getElem? (i := 92) rfl))) (by decide) (t := (.object "com/example/plain_keys/plainkeys/key/Refusal")) (t' := .long) (by decide) (by decide)))
  have F_entry_a1 := F_entry_a1.same Ww42
  refine own_st st42 ?_
  show OGo p e below s _ _ (T42.setTop (mkF m 37 #[.val (.ref a1), .val .null, .val .null, .val (.long q4), .second, .val .null, .val (.ref a6), .val (.long q7), .second] []))
  exact own_retV X42 hx hlk hret (hb hby d15_37) (by decide) (by decide) (⟨rfl, Nf42, (by rw [e42]; exact K0), (by rw [e42]; exact E_a1), (by rw [e42]; exact F_name_a1), (by rw [e42]; exact F_refusal_a1), (by rw [e42]; exact F_entry_a1)⟩)
theorem d14_0 : decode prog_24_method_5_code 0 = .ok (.new 8, 3) := by decide +kernel
theorem d14_3 : decode prog_24_method_5_code 3 = .ok (.dup, 1) := by decide +kernel
theorem d14_4 : decode prog_24_method_5_code 4 = .ok (.aconst_null, 1) := by decide +kernel
theorem d14_5 : decode prog_24_method_5_code 5 = .ok (.aload_n 1, 1) := by decide +kernel
theorem d14_6 : decode prog_24_method_5_code 6 = .ok (.lconst 0, 1) := by decide +kernel
theorem d14_7 : decode prog_24_method_5_code 7 = .ok (.aconst_null, 1) := by decide +kernel
theorem d14_8 : decode prog_24_method_5_code 8 = .ok (.aload_n 0, 1) := by decide +kernel
theorem d14_9 : decode prog_24_method_5_code 9 = .ok (.ldc2_w 32, 3) := by decide +kernel
theorem d14_12 : decode prog_24_method_5_code 12 = .ok (.invokespecial 34, 3) := by decide +kernel
theorem pd_8 : parseMethodDescriptor "(Lcom/example/plain_keys/plainkeys/key/Key;Lcom/example/plain_keys/plainkeys/key/KeyName;JLjava/time/Instant;Lcom/example/plain_keys/plainkeys/key/Refusal;J)V" = some ⟨[(.object "com/example/plain_keys/plainkeys/key/Key"), (.object "com/example/plain_keys/plainkeys/key/KeyName"), .long, (.object "java/time/Instant"), (.object "com/example/plain_keys/plainkeys/key/Refusal"), .long], none⟩ := by decide +kernel
theorem d14_15 : decode prog_24_method_5_code 15 = .ok (.areturn, 1) := by decide +kernel
theorem ef_14_R0 (m : MethodId) (x0 : Addr) : entryFrame m #[(.ref x0), .null] 2 = mkF m 0 #[.val (.ref x0), .val .null] [] := by first | (simp [entryFrame, mkF, argsToLocals, Value.category]; done) | rfl
set_option maxRecDepth 65536 in
set_option maxHeartbeats 40000000 in
theorem rf0 (l : Launch) (Z : State) (a0 : Array Value) (hw : ∀ d ∈ tables_1, d.before a0 Z = true) (a1 : Addr) (h0 : Heap) (n0 : Nat) (Z0 : n0 ≤ h0.size) :
    OMet l Z (⟨"com/example/plain_keys/plainkeys/key/Verdict", "refused", "(Lcom/example/plain_keys/plainkeys/key/Refusal;Lcom/example/plain_keys/plainkeys/key/KeyName;)Lcom/example/plain_keys/plainkeys/key/Verdict;"⟩ : MethodName) prog_24_method_5_code 2 (some (.object "com/example/plain_keys/plainkeys/key/Verdict")) [] ({ frames := 2, cells := 1, slots := 6, locals := 33 } : Room) #[(.ref a1), .null] h0 (fun v h' L => ∃ v1 : Addr, v = some (.ref v1) ∧ Fr n0 L ∧ Keep h0 h' [] ∧ h0.size ≤ v1 ∧ Exa Z h' v1 "com/example/plain_keys/plainkeys/key/Verdict" ∧ Fld Z h' v1 "com/example/plain_keys/plainkeys/key/Verdict" "name" "Lcom/example/plain_keys/plainkeys/key/KeyName;" .null ∧ Fld Z h' v1 "com/example/plain_keys/plainkeys/key/Verdict" "refusal" "Lcom/example/plain_keys/plainkeys/key/Refusal;" (.ref a1) ∧ Fld Z h' v1 "com/example/plain_keys/plainkeys/key/Verdict" "entry" "J" (.long (-1 : Int64))) := by
  refine own_body (plainFor_of_name pn_com_example_plain_keys_plainkeys_key_Verdict) (fun m => ef_14_R0 m a1) ?_
  intro p e s m below meth c T0 hx hby hml hown hnm hret hlk hZ X0 e0
  have hown : s.vm.findClass "com/example/plain_keys/plainkeys/key/Verdict" = some m.cls := hown
  have hml : c.maxLocals = 2 := hml
  have N0 := Fr.nil n0
  have K0 := Keep.refl h0 []
  show OGo p e below s _ _ (T0.setTop (mkF m 0 #[.val (.ref a1), .val .null] []))
  obtain ⟨T43, hp43, X43, e43, Ex43, Aa43, Dd43, -, st43⟩ := newO X0 hx hZ hown (hw _ (List.mem_of_getElem? (i := 74) rfl)) (hw _ (List.mem_of_getElem? (i := 75) rfl)) (hw _ (List.mem_of_getElem? (i := 72) rfl)) e0 (g := (mkF m 0 #[.val (.ref a1), .val .null] [])) rfl (hb hby d14_0) (by decide) (by decide)
  obtain ⟨v1, gs43⟩ : ∃ z, z = h0.size := ⟨_, rfl⟩
  rw [← gs43] at Aa43 Dd43 st43
  have old_v1 : n0 ≤ v1 := Nat.le_trans Z0 (Nat.le_of_eq gs43.symm)
  have fr_v1 : h0.size ≤ v1 := Nat.le_trans K0.1 (Nat.le_of_eq gs43.symm)
  have K0 := K0.ext Ex43
  have Z0 := Nat.le_trans Z0 Ex43.1
  have E_v1 := Aa43
  have F_key_v1 : Fld Z hp43 v1 "com/example/plain_keys/plainkeys/key/Verdict" "key" "Lcom/example/plain_keys/plainkeys/key/Key;" .null := Dd43 (Or.inr (hw _ (List.mem_of_getElem? (i := 82) rfl))) (ty := (.object "com/example/plain_keys/plainkeys/key/Key")) (by decide)
  have F_name_v1 : Fld Z hp43 v1 "com/example/plain_keys/plainkeys/key/Verdict" "name" "Lcom/example/plain_keys/plainkeys/key/KeyName;" .null := Dd43 (Or.inr (hw _ (List.mem_of_getElem? (i := 84) rfl))) (ty := (.object "com/example/plain_keys/plainkeys/key/KeyName")) (by decide)
  have F_usesLeft_v1 : Fld Z hp43 v1 "com/example/plain_keys/plainkeys/key/Verdict" "usesLeft" "J" (.long (0 : Int64)) := Dd43 (Or.inr (hw _ (List.mem_of_getElem? (i := 86) rfl))) (ty := .long) (by decide)
  have F_until_v1 : Fld Z hp43 v1 "com/example/plain_keys/plainkeys/key/Verdict" "until" "Ljava/time/Instant;" .null := Dd43 (Or.inr (hw _ (List.mem_of_getElem? (i := 88) rfl))) (ty := (.object "java/time/Instant")) (by decide)
  have F_refusal_v1 : Fld Z hp43 v1 "com/example/plain_keys/plainkeys/key/Verdict" "refusal" "Lcom/example/plain_keys/plainkeys/key/Refusal;" .null := Dd43 (Or.inr (hw _ (List.mem_of_getElem? (i := 90) rfl))) (ty := (.object "com/example/plain_keys/plainkeys/key/Refusal")) (by decide)
  have F_entry_v1 : Fld Z hp43 v1 "com/example/plain_keys/plainkeys/key/Verdict" "entry" "J" (.long (0 : Int64)) := Dd43 (Or.inr (hw _ (List.mem_of_getElem? (i := 92) rfl))) (ty := .long) (by decide)
  refine own_st st43 ?_
  show OGo p e below s _ _ (T43.setTop (mkF m 3 #[.val (.ref a1), .val .null] [(.ref v1)]))
  refine own_st (fun t k => XS.dup X43.here hx rfl (hb hby d14_3) rfl rfl k) ?_
  show OGo p e below s _ _ (T43.setTop (mkF m 4 #[.val (.ref a1), .val .null] [(.ref v1), (.ref v1)]))
  refine own_st (fun t k => XS.aconstNull X43.here hx rfl (hb hby d14_4) k) ?_
  show OGo p e below s _ _ (T43.setTop (mkF m 5 #[.val (.ref a1), .val .null] [.null, (.ref v1), (.ref v1)]))
  refine own_st (fun t k => XS.aloadN X43.here hx rfl (hb hby d14_5) rfl rfl k) ?_
  show OGo p e below s _ _ (T43.setTop (mkF m 6 #[.val (.ref a1), .val .null] [.null, .null, (.ref v1), (.ref v1)]))
  refine own_st (fun t k => XS.lconst X43.here hx rfl (hb hby d14_6) k) ?_
  show OGo p e below s _ _ (T43.setTop (mkF m 7 #[.val (.ref a1), .val .null] [(.long (0 : Int64)), .null, .null, (.ref v1), (.ref v1)]))
  refine own_st (fun t k => XS.aconstNull X43.here hx rfl (hb hby d14_7) k) ?_
  show OGo p e below s _ _ (T43.setTop (mkF m 8 #[.val (.ref a1), .val .null] [.null, (.long (0 : Int64)), .null, .null, (.ref v1), (.ref v1)]))
  refine own_st (fun t k => XS.aloadN X43.here hx rfl (hb hby d14_8) rfl rfl k) ?_
  show OGo p e below s _ _ (T43.setTop (mkF m 9 #[.val (.ref a1), .val .null] [(.ref a1), .null, (.long (0 : Int64)), .null, .null, (.ref v1), (.ref v1)]))
  refine own_st (X43.ldc2Long hx hown (mvT hZ (hw _ (List.mem_of_getElem? (i := 76) rfl))) (g := (mkF m 9 #[.val (.ref a1), .val .null] [(.ref a1), .null, (.long (0 : Int64)), .null, .null, (.ref v1), (.ref v1)])) rfl (hb hby d14_9)) ?_
  show OGo p e below s _ _ (T43.setTop (mkF m 12 #[.val (.ref a1), .val .null] [(.long (-1 : Int64)), (.ref a1), .null, (.long (0 : Int64)), .null, .null, (.ref v1), (.ref v1)]))
  obtain ⟨_, T44, Lc44, X44, hQ44, st44⟩ := own_callI X43 hx hZ (y := (⟨"com/example/plain_keys/plainkeys/key/Verdict", "<init>", "(Lcom/example/plain_keys/plainkeys/key/Key;Lcom/example/plain_keys/plainkeys/key/KeyName;JLjava/time/Instant;Lcom/example/plain_keys/plainkeys/key/Refusal;J)V"⟩ : MethodName)) (W := 1) rfl hown (hw _ (List.mem_of_getElem? (i := 77) rfl)) (hw _ (List.mem_of_getElem? (i := 78) rfl)) (hw _ (List.mem_of_getElem? (i := 79) rfl)) (hw _ (List.mem_of_getElem? (i := 72) rfl)) (by decide) (rv0 l Z a0 hw v1 (0 : Int64) a1 (-1 : Int64) hp43 n0 Z0 old_v1 E_v1 F_key_v1 F_name_v1 F_usesLeft_v1 F_until_v1 F_refusal_v1 F_entry_v1) (by decide) (by decide) (a := v1) (g := (mkF m 12 #[.val (.ref a1), .val .null] [(.long (-1 : Int64)), (.ref a1), .null, (.long (0 : Int64)), .null, .null, (.ref v1), (.ref v1)])) rfl (by rw [hml]; rfl) (argsL := [.null, .null, (.long (0 : Int64)), .null, (.ref a1), (.long (-1 : Int64))]) (rest := [(.ref v1)]) (lenOf pd_8 rfl) rfl (by show 2 * 0 + _ ≤ _; exact Nat.le_of_eq rfl) (hb hby d14_12) rfl e43 (by decide) (by decide)
  obtain ⟨rfl, Nq44, Kq44, q44_0, q44_1, q44_2, q44_3⟩ := hQ44
  have Z0 := Nat.le_trans Z0 Kq44.1
  have K0 := K0.trans Kq44 (allS (Or.inr fr_v1) all0)
  have Nr44 := Fr.app N0 Nq44
  have E_v1 := q44_0
  have F_name_v1 := q44_1
  have F_refusal_v1 := q44_2
  have F_entry_v1 := q44_3
  refine own_st st44 ?_
  show OGo p e below s _ _ (T44.setTop (mkF m 15 #[.val (.ref a1), .val .null] [(.ref v1)]))
  exact own_retA X44 hx hlk hret rfl rfl (hb hby d14_15) (by decide) (by decide) (⟨v1, rfl, Nr44, K0, fr_v1, E_v1, F_name_v1, F_refusal_v1, F_entry_v1⟩)
theorem ef_15_R0RJ0RJ (m : MethodId) (x0 : Addr) (x2 : Addr) (x3 : Int64) (x5 : Addr) (x6 : Int64) : entryFrame m #[(.ref x0), .null, (.ref x2), (.long x3), .null, (.ref x5), (.long x6)] 9 = mkF m 0 #[.val (.ref x0), .val .null, .val (.ref x2), .val (.long x3), .second, .val .null, .val (.ref x5), .val (.long x6), .second] [] := by first | (simp [entryFrame, mkF, argsToLocals, Value.category]; done) | rfl
set_option maxRecDepth 65536 in
set_option maxHeartbeats 40000000 in
theorem rv1 (l : Launch) (Z : State) (a0 : Array Value) (hw : ∀ d ∈ tables_1, d.before a0 Z = true) (a1 : Addr) (a3 : Addr) (q4 : Int64) (a6 : Addr) (q7 : Int64) (h0 : Heap) (n0 : Nat) (Z0 : n0 ≤ h0.size) (old_a1 : n0 ≤ a1) (E_a1 : Exa Z h0 a1 "com/example/plain_keys/plainkeys/key/Verdict") (F_key_a1 : Fld Z h0 a1 "com/example/plain_keys/plainkeys/key/Verdict" "key" "Lcom/example/plain_keys/plainkeys/key/Key;" .null) (F_name_a1 : Fld Z h0 a1 "com/example/plain_keys/plainkeys/key/Verdict" "name" "Lcom/example/plain_keys/plainkeys/key/KeyName;" .null) (F_usesLeft_a1 : Fld Z h0 a1 "com/example/plain_keys/plainkeys/key/Verdict" "usesLeft" "J" (.long (0 : Int64))) (F_until_a1 : Fld Z h0 a1 "com/example/plain_keys/plainkeys/key/Verdict" "until" "Ljava/time/Instant;" .null) (F_refusal_a1 : Fld Z h0 a1 "com/example/plain_keys/plainkeys/key/Verdict" "refusal" "Lcom/example/plain_keys/plainkeys/key/Refusal;" .null) (F_entry_a1 : Fld Z h0 a1 "com/example/plain_keys/plainkeys/key/Verdict" "entry" "J" (.long (0 : Int64))) :
    OMet l Z (⟨"com/example/plain_keys/plainkeys/key/Verdict", "<init>", "(Lcom/example/plain_keys/plainkeys/key/Key;Lcom/example/plain_keys/plainkeys/key/KeyName;JLjava/time/Instant;Lcom/example/plain_keys/plainkeys/key/Refusal;J)V"⟩ : MethodName) prog_24_method_1_code 9 none [] ({ frames := 1, cells := 0, slots := 0, locals := 12 } : Room) #[(.ref a1), .null, (.ref a3), (.long q4), .null, (.ref a6), (.long q7)] h0 (fun v h' L => v = none ∧ Fr n0 L ∧ Keep h0 h' [a1] ∧ Exa Z h' a1 "com/example/plain_keys/plainkeys/key/Verdict" ∧ Fld Z h' a1 "com/example/plain_keys/plainkeys/key/Verdict" "name" "Lcom/example/plain_keys/plainkeys/key/KeyName;" (.ref a3) ∧ Fld Z h' a1 "com/example/plain_keys/plainkeys/key/Verdict" "refusal" "Lcom/example/plain_keys/plainkeys/key/Refusal;" (.ref a6) ∧ Fld Z h' a1 "com/example/plain_keys/plainkeys/key/Verdict" "entry" "J" (.long q7)) := by
  refine own_body (plainFor_of_name pn_com_example_plain_keys_plainkeys_key_Verdict) (fun m => ef_15_R0RJ0RJ m a1 a3 q4 a6 q7) ?_
  intro p e s m below meth c T0 hx hby hml hown hnm hret hlk hZ X0 e0
  have hown : s.vm.findClass "com/example/plain_keys/plainkeys/key/Verdict" = some m.cls := hown
  have hml : c.maxLocals = 9 := hml
  have N0 := Fr.nil n0
  have K0 := Keep.refl h0 [a1]
  show OGo p e below s _ _ (T0.setTop (mkF m 0 #[.val (.ref a1), .val .null, .val (.ref a3), .val (.long q4), .second, .val .null, .val (.ref a6), .val (.long q7), .second] []))
  refine own_st (fun t k => XS.aloadN X0.here hx rfl (hb hby d15_0) rfl rfl k) ?_
  show OGo p e below s _ _ (T0.setTop (mkF m 1 #[.val (.ref a1), .val .null, .val (.ref a3), .val (.long q4), .second, .val .null, .val (.ref a6), .val (.long q7), .second] [(.ref a1)]))
  obtain ⟨T45, X45, e45, st45⟩ := initO X0 hx hZ hown (hw _ (List.mem_of_getElem? (i := 80) rfl)) (hw _ (List.mem_of_getElem? (i := 20) rfl)) (hw _ (List.mem_of_getElem? (i := 21) rfl)) e0 (g := (mkF m 1 #[.val (.ref a1), .val .null, .val (.ref a3), .val (.long q4), .second, .val .null, .val (.ref a6), .val (.long q7), .second] [(.ref a1)])) rfl (by rw [hml]; rfl) rfl (hb hby d15_1) (by decide) (W := 0) (by show 2 * 0 + _ ≤ _; exact Nat.le_of_eq rfl) (by decide)
  refine own_st st45 ?_
  show OGo p e below s _ _ (T45.setTop (mkF m 4 #[.val (.ref a1), .val .null, .val (.ref a3), .val (.long q4), .second, .val .null, .val (.ref a6), .val (.long q7), .second] []))
  refine own_st (fun t k => XS.aloadN X45.here hx rfl (hb hby d15_4) rfl rfl k) ?_
  show OGo p e below s _ _ (T45.setTop (mkF m 5 #[.val (.ref a1), .val .null, .val (.ref a3), .val (.long q4), .second, .val .null, .val (.ref a6), .val (.long q7), .second] [(.ref a1)]))
  refine own_st (fun t k => XS.aloadN X45.here hx rfl (hb hby d15_5) rfl rfl k) ?_
  show OGo p e below s _ _ (T45.setTop (mkF m 6 #[.val (.ref a1), .val .null, .val (.ref a3), .val (.long q4), .second, .val .null, .val (.ref a6), .val (.long q7), .second] [.null, (.ref a1)]))
  obtain ⟨T46, hp46, X46, e46, Ww46, st46⟩ := putF X45 hx hZ hown (host := "") (Or.inl (hw _ (List.mem_of_getElem? (i := 81) rfl))) Via.refl e45 F_key_a1 E_a1 (Or.inr ⟨(hw _ (List.mem_of_getElem? (i := 82) rfl)), rfl, hnm⟩) (hw _ (List.mem_of_getElem? (i := 75) rfl)) (ty := (.object "com/example/plain_keys/plainkeys/key/Key")) (by decide) rfl rfl (g := (mkF m 6 #[.val (.ref a1), .val .null, .val (.ref a3), .val (.long q4), .second, .val .null, .val (.ref a6), .val (.long q7), .second] [.null, (.ref a1)])) rfl rfl (hb hby d15_6)
  have Nf46 := Fr.snoc X46 N0 old_a1
  have Z0 := Nat.le_trans Z0 (Keep.of_wr Ww46).1
  have K0 := K0.wr Ww46 (Or.inl (List.mem_of_getElem? (i := 0) rfl))
  have E_a1 := E_a1.wr Ww46
  have F_key_a1 := F_key_a1.same Ww46
  have F_name_a1 := F_name_a1.other Ww46 (Or.inr (slot_ne (Or.inr (hw _ (List.mem_of_getElem? (i := 84) rfl))) (Or.inr (hw _ (List.mem_of_getElem? (i := 82) rfl))) (by decide) (t := (.object "com/example/plain_keys/plainkeys/key/KeyName")) (t' := (.object "com/example/plain_keys/plainkeys/key/Key")) (by decide) (by decide)))
  have F_usesLeft_a1 := F_usesLeft_a1.other Ww46 (Or.inr (slot_ne (Or.inr (hw _ (List.mem_of_getElem? (i := 86) rfl))) (Or.inr (hw _ (List.mem_of_getElem? (i := 82) rfl))) (by decide) (t := .long) (t' := (.object "com/example/plain_keys/plainkeys/key/Key")) (by decide) (by decide)))
  have F_until_a1 := F_until_a1.other Ww46 (Or.inr (slot_ne (Or.inr (hw _ (List.mem_of_getElem? (i := 88) rfl))) (Or.inr (hw _ (List.mem_of_getElem? (i := 82) rfl))) (by decide) (t := (.object "java/time/Instant")) (t' := (.object "com/example/plain_keys/plainkeys/key/Key")) (by decide) (by decide)))
  have F_refusal_a1 := F_refusal_a1.other Ww46 (Or.inr (slot_ne (Or.inr (hw _ (List.mem_of_getElem? (i := 90) rfl))) (Or.inr (hw _ (List.mem_of_getElem? (i := 82) rfl))) (by decide) (t := (.object "com/example/plain_keys/plainkeys/key/Refusal")) (t' := (.object "com/example/plain_keys/plainkeys/key/Key")) (by decide) (by decide)))
  have F_entry_a1 := F_entry_a1.other Ww46 (Or.inr (slot_ne (Or.inr (hw _ (List.mem_of_getElem? (i := 92) rfl))) (Or.inr (hw _ (List.mem_of_getElem? (i := 82) rfl))) (by decide) (t := .long) (t' := (.object "com/example/plain_keys/plainkeys/key/Key")) (by decide) (by decide)))
  refine own_st st46 ?_
  show OGo p e below s _ _ (T46.setTop (mkF m 9 #[.val (.ref a1), .val .null, .val (.ref a3), .val (.long q4), .second, .val .null, .val (.ref a6), .val (.long q7), .second] []))
  refine own_st (fun t k => XS.aloadN X46.here hx rfl (hb hby d15_9) rfl rfl k) ?_
  show OGo p e below s _ _ (T46.setTop (mkF m 10 #[.val (.ref a1), .val .null, .val (.ref a3), .val (.long q4), .second, .val .null, .val (.ref a6), .val (.long q7), .second] [(.ref a1)]))
  refine own_st (fun t k => XS.aloadN X46.here hx rfl (hb hby d15_10) rfl rfl k) ?_
  show OGo p e below s _ _ (T46.setTop (mkF m 11 #[.val (.ref a1), .val .null, .val (.ref a3), .val (.long q4), .second, .val .null, .val (.ref a6), .val (.long q7), .second] [(.ref a3), (.ref a1)]))
  obtain ⟨T47, hp47, X47, e47, Ww47, st47⟩ := putF X46 hx hZ hown (host := "") (Or.inl (hw _ (List.mem_of_getElem? (i := 83) rfl))) Via.refl e46 F_name_a1 E_a1 (Or.inr ⟨(hw _ (List.mem_of_getElem? (i := 84) rfl)), rfl, hnm⟩) (hw _ (List.mem_of_getElem? (i := 75) rfl)) (ty := (.object "com/example/plain_keys/plainkeys/key/KeyName")) (by decide) rfl rfl (g := (mkF m 11 #[.val (.ref a1), .val .null, .val (.ref a3), .val (.long q4), .second, .val .null, .val (.ref a6), .val (.long q7), .second] [(.ref a3), (.ref a1)])) rfl rfl (hb hby d15_11)
  have Nf47 := Fr.snoc X47 Nf46 old_a1
  have Z0 := Nat.le_trans Z0 (Keep.of_wr Ww47).1
  have K0 := K0.wr Ww47 (Or.inl (List.mem_of_getElem? (i := 0) rfl))
  have E_a1 := E_a1.wr Ww47
  have F_key_a1 := F_key_a1.other Ww47 (Or.inr (slot_ne (Or.inr (hw _ (List.mem_of_getElem? (i := 82) rfl))) (Or.inr (hw _ (List.mem_of_getElem? (i := 84) rfl))) (by decide) (t := (.object "com/example/plain_keys/plainkeys/key/Key")) (t' := (.object "com/example/plain_keys/plainkeys/key/KeyName")) (by decide) (by decide)))
  have F_name_a1 := F_name_a1.same Ww47
  have F_usesLeft_a1 := F_usesLeft_a1.other Ww47 (Or.inr (slot_ne (Or.inr (hw _ (List.mem_of_getElem? (i := 86) rfl))) (Or.inr (hw _ (List.mem_of_getElem? (i := 84) rfl))) (by decide) (t := .long) (t' := (.object "com/example/plain_keys/plainkeys/key/KeyName")) (by decide) (by decide)))
  have F_until_a1 := F_until_a1.other Ww47 (Or.inr (slot_ne (Or.inr (hw _ (List.mem_of_getElem? (i := 88) rfl))) (Or.inr (hw _ (List.mem_of_getElem? (i := 84) rfl))) (by decide) (t := (.object "java/time/Instant")) (t' := (.object "com/example/plain_keys/plainkeys/key/KeyName")) (by decide) (by decide)))
  have F_refusal_a1 := F_refusal_a1.other Ww47 (Or.inr (slot_ne (Or.inr (hw _ (List.mem_of_getElem? (i := 90) rfl))) (Or.inr (hw _ (List.mem_of_getElem? (i := 84) rfl))) (by decide) (t := (.object "com/example/plain_keys/plainkeys/key/Refusal")) (t' := (.object "com/example/plain_keys/plainkeys/key/KeyName")) (by decide) (by decide)))
  have F_entry_a1 := F_entry_a1.other Ww47 (Or.inr (slot_ne (Or.inr (hw _ (List.mem_of_getElem? (i := 92) rfl))) (Or.inr (hw _ (List.mem_of_getElem? (i := 84) rfl))) (by decide) (t := .long) (t' := (.object "com/example/plain_keys/plainkeys/key/KeyName")) (by decide) (by decide)))
  refine own_st st47 ?_
  show OGo p e below s _ _ (T47.setTop (mkF m 14 #[.val (.ref a1), .val .null, .val (.ref a3), .val (.long q4), .second, .val .null, .val (.ref a6), .val (.long q7), .second] []))
  refine own_st (fun t k => XS.aloadN X47.here hx rfl (hb hby d15_14) rfl rfl k) ?_
  show OGo p e below s _ _ (T47.setTop (mkF m 15 #[.val (.ref a1), .val .null, .val (.ref a3), .val (.long q4), .second, .val .null, .val (.ref a6), .val (.long q7), .second] [(.ref a1)]))
  refine own_st (fun t k => XS.lloadN X47.here hx rfl (hb hby d15_15) rfl k) ?_
  show OGo p e below s _ _ (T47.setTop (mkF m 16 #[.val (.ref a1), .val .null, .val (.ref a3), .val (.long q4), .second, .val .null, .val (.ref a6), .val (.long q7), .second] [(.long q4), (.ref a1)]))
  obtain ⟨T48, hp48, X48, e48, Ww48, st48⟩ := putF X47 hx hZ hown (host := "") (Or.inl (hw _ (List.mem_of_getElem? (i := 85) rfl))) Via.refl e47 F_usesLeft_a1 E_a1 (Or.inr ⟨(hw _ (List.mem_of_getElem? (i := 86) rfl)), rfl, hnm⟩) (hw _ (List.mem_of_getElem? (i := 75) rfl)) (ty := .long) (by decide) rfl rfl (g := (mkF m 16 #[.val (.ref a1), .val .null, .val (.ref a3), .val (.long q4), .second, .val .null, .val (.ref a6), .val (.long q7), .second] [(.long q4), (.ref a1)])) rfl rfl (hb hby d15_16)
  have Nf48 := Fr.snoc X48 Nf47 old_a1
  have Z0 := Nat.le_trans Z0 (Keep.of_wr Ww48).1
  have K0 := K0.wr Ww48 (Or.inl (List.mem_of_getElem? (i := 0) rfl))
  have E_a1 := E_a1.wr Ww48
  have F_key_a1 := F_key_a1.other Ww48 (Or.inr (slot_ne (Or.inr (hw _ (List.mem_of_getElem? (i := 82) rfl))) (Or.inr (hw _ (List.mem_of_getElem? (i := 86) rfl))) (by decide) (t := (.object "com/example/plain_keys/plainkeys/key/Key")) (t' := .long) (by decide) (by decide)))
  have F_name_a1 := F_name_a1.other Ww48 (Or.inr (slot_ne (Or.inr (hw _ (List.mem_of_getElem? (i := 84) rfl))) (Or.inr (hw _ (List.mem_of_getElem? (i := 86) rfl))) (by decide) (t := (.object "com/example/plain_keys/plainkeys/key/KeyName")) (t' := .long) (by decide) (by decide)))
  have F_usesLeft_a1 := F_usesLeft_a1.same Ww48
  have F_until_a1 := F_until_a1.other Ww48 (Or.inr (slot_ne (Or.inr (hw _ (List.mem_of_getElem? (i := 88) rfl))) (Or.inr (hw _ (List.mem_of_getElem? (i := 86) rfl))) (by decide) (t := (.object "java/time/Instant")) (t' := .long) (by decide) (by decide)))
  have F_refusal_a1 := F_refusal_a1.other Ww48 (Or.inr (slot_ne (Or.inr (hw _ (List.mem_of_getElem? (i := 90) rfl))) (Or.inr (hw _ (List.mem_of_getElem? (i := 86) rfl))) (by decide) (t := (.object "com/example/plain_keys/plainkeys/key/Refusal")) (t' := .long) (by decide) (by decide)))
  have F_entry_a1 := F_entry_a1.other Ww48 (Or.inr (slot_ne (Or.inr (hw _ (List.mem_of_getElem? (i := 92) rfl))) (Or.inr (hw _ (List.mem_of_getElem? (i := 86) rfl))) (by decide) (t := .long) (t' := .long) (by decide) (by decide)))
  refine own_st st48 ?_
  show OGo p e below s _ _ (T48.setTop (mkF m 19 #[.val (.ref a1), .val .null, .val (.ref a3), .val (.long q4), .second, .val .null, .val (.ref a6), .val (.long q7), .second] []))
  refine own_st (fun t k => XS.aloadN X48.here hx rfl (hb hby d15_19) rfl rfl k) ?_
  show OGo p e below s _ _ (T48.setTop (mkF m 20 #[.val (.ref a1), .val .null, .val (.ref a3), .val (.long q4), .second, .val .null, .val (.ref a6), .val (.long q7), .second] [(.ref a1)]))
  refine own_st (fun t k => XS.aload X48.here hx rfl (hb hby d15_20) rfl rfl k) ?_
  show OGo p e below s _ _ (T48.setTop (mkF m 22 #[.val (.ref a1), .val .null, .val (.ref a3), .val (.long q4), .second, .val .null, .val (.ref a6), .val (.long q7), .second] [.null, (.ref a1)]))
  obtain ⟨T49, hp49, X49, e49, Ww49, st49⟩ := putF X48 hx hZ hown (host := "") (Or.inl (hw _ (List.mem_of_getElem? (i := 87) rfl))) Via.refl e48 F_until_a1 E_a1 (Or.inr ⟨(hw _ (List.mem_of_getElem? (i := 88) rfl)), rfl, hnm⟩) (hw _ (List.mem_of_getElem? (i := 75) rfl)) (ty := (.object "java/time/Instant")) (by decide) rfl rfl (g := (mkF m 22 #[.val (.ref a1), .val .null, .val (.ref a3), .val (.long q4), .second, .val .null, .val (.ref a6), .val (.long q7), .second] [.null, (.ref a1)])) rfl rfl (hb hby d15_22)
  have Nf49 := Fr.snoc X49 Nf48 old_a1
  have Z0 := Nat.le_trans Z0 (Keep.of_wr Ww49).1
  have K0 := K0.wr Ww49 (Or.inl (List.mem_of_getElem? (i := 0) rfl))
  have E_a1 := E_a1.wr Ww49
  have F_key_a1 := F_key_a1.other Ww49 (Or.inr (slot_ne (Or.inr (hw _ (List.mem_of_getElem? (i := 82) rfl))) (Or.inr (hw _ (List.mem_of_getElem? (i := 88) rfl))) (by decide) (t := (.object "com/example/plain_keys/plainkeys/key/Key")) (t' := (.object "java/time/Instant")) (by decide) (by decide)))
  have F_name_a1 := F_name_a1.other Ww49 (Or.inr (slot_ne (Or.inr (hw _ (List.mem_of_getElem? (i := 84) rfl))) (Or.inr (hw _ (List.mem_of_getElem? (i := 88) rfl))) (by decide) (t := (.object "com/example/plain_keys/plainkeys/key/KeyName")) (t' := (.object "java/time/Instant")) (by decide) (by decide)))
  have F_usesLeft_a1 := F_usesLeft_a1.other Ww49 (Or.inr (slot_ne (Or.inr (hw _ (List.mem_of_getElem? (i := 86) rfl))) (Or.inr (hw _ (List.mem_of_getElem? (i := 88) rfl))) (by decide) (t := .long) (t' := (.object "java/time/Instant")) (by decide) (by decide)))
  have F_until_a1 := F_until_a1.same Ww49
  have F_refusal_a1 := F_refusal_a1.other Ww49 (Or.inr (slot_ne (Or.inr (hw _ (List.mem_of_getElem? (i := 90) rfl))) (Or.inr (hw _ (List.mem_of_getElem? (i := 88) rfl))) (by decide) (t := (.object "com/example/plain_keys/plainkeys/key/Refusal")) (t' := (.object "java/time/Instant")) (by decide) (by decide)))
  have F_entry_a1 := F_entry_a1.other Ww49 (Or.inr (slot_ne (Or.inr (hw _ (List.mem_of_getElem? (i := 92) rfl))) (Or.inr (hw _ (List.mem_of_getElem? (i := 88) rfl))) (by decide) (t := .long) (t' := (.object "java/time/Instant")) (by decide) (by decide)))
  refine own_st st49 ?_
  show OGo p e below s _ _ (T49.setTop (mkF m 25 #[.val (.ref a1), .val .null, .val (.ref a3), .val (.long q4), .second, .val .null, .val (.ref a6), .val (.long q7), .second] []))
  refine own_st (fun t k => XS.aloadN X49.here hx rfl (hb hby d15_25) rfl rfl k) ?_
  show OGo p e below s _ _ (T49.setTop (mkF m 26 #[.val (.ref a1), .val .null, .val (.ref a3), .val (.long q4), .second, .val .null, .val (.ref a6), .val (.long q7), .second] [(.ref a1)]))
  refine own_st (fun t k => XS.aload X49.here hx rfl (hb hby d15_26) rfl rfl k) ?_
  show OGo p e below s _ _ (T49.setTop (mkF m 28 #[.val (.ref a1), .val .null, .val (.ref a3), .val (.long q4), .second, .val .null, .val (.ref a6), .val (.long q7), .second] [(.ref a6), (.ref a1)]))
  obtain ⟨T50, hp50, X50, e50, Ww50, st50⟩ := putF X49 hx hZ hown (host := "") (Or.inl (hw _ (List.mem_of_getElem? (i := 89) rfl))) Via.refl e49 F_refusal_a1 E_a1 (Or.inr ⟨(hw _ (List.mem_of_getElem? (i := 90) rfl)), rfl, hnm⟩) (hw _ (List.mem_of_getElem? (i := 75) rfl)) (ty := (.object "com/example/plain_keys/plainkeys/key/Refusal")) (by decide) rfl rfl (g := (mkF m 28 #[.val (.ref a1), .val .null, .val (.ref a3), .val (.long q4), .second, .val .null, .val (.ref a6), .val (.long q7), .second] [(.ref a6), (.ref a1)])) rfl rfl (hb hby d15_28)
  have Nf50 := Fr.snoc X50 Nf49 old_a1
  have Z0 := Nat.le_trans Z0 (Keep.of_wr Ww50).1
  have K0 := K0.wr Ww50 (Or.inl (List.mem_of_getElem? (i := 0) rfl))
  have E_a1 := E_a1.wr Ww50
  have F_key_a1 := F_key_a1.other Ww50 (Or.inr (slot_ne (Or.inr (hw _ (List.mem_of_getElem? (i := 82) rfl))) (Or.inr (hw _ (List.mem_of_getElem? (i := 90) rfl))) (by decide) (t := (.object "com/example/plain_keys/plainkeys/key/Key")) (t' := (.object "com/example/plain_keys/plainkeys/key/Refusal")) (by decide) (by decide)))
  have F_name_a1 := F_name_a1.other Ww50 (Or.inr (slot_ne (Or.inr (hw _ (List.mem_of_getElem? (i := 84) rfl))) (Or.inr (hw _ (List.mem_of_getElem? (i := 90) rfl))) (by decide) (t := (.object "com/example/plain_keys/plainkeys/key/KeyName")) (t' := (.object "com/example/plain_keys/plainkeys/key/Refusal")) (by decide) (by decide)))
  have F_usesLeft_a1 := F_usesLeft_a1.other Ww50 (Or.inr (slot_ne (Or.inr (hw _ (List.mem_of_getElem? (i := 86) rfl))) (Or.inr (hw _ (List.mem_of_getElem? (i := 90) rfl))) (by decide) (t := .long) (t' := (.object "com/example/plain_keys/plainkeys/key/Refusal")) (by decide) (by decide)))
  have F_until_a1 := F_until_a1.other Ww50 (Or.inr (slot_ne (Or.inr (hw _ (List.mem_of_getElem? (i := 88) rfl))) (Or.inr (hw _ (List.mem_of_getElem? (i := 90) rfl))) (by decide) (t := (.object "java/time/Instant")) (t' := (.object "com/example/plain_keys/plainkeys/key/Refusal")) (by decide) (by decide)))
  have F_refusal_a1 := F_refusal_a1.same Ww50
  have F_entry_a1 := F_entry_a1.other Ww50 (Or.inr (slot_ne (Or.inr (hw _ (List.mem_of_getElem? (i := 92) rfl))) (Or.inr (hw _ (List.mem_of_getElem? (i := 90) rfl))) (by decide) (t := .long) (t' := (.object "com/example/plain_keys/plainkeys/key/Refusal")) (by decide) (by decide)))
  refine own_st st50 ?_
  show OGo p e below s _ _ (T50.setTop (mkF m 31 #[.val (.ref a1), .val .null, .val (.ref a3), .val (.long q4), .second, .val .null, .val (.ref a6), .val (.long q7), .second] []))
  refine own_st (fun t k => XS.aloadN X50.here hx rfl (hb hby d15_31) rfl rfl k) ?_
  show OGo p e below s _ _ (T50.setTop (mkF m 32 #[.val (.ref a1), .val .null, .val (.ref a3), .val (.long q4), .second, .val .null, .val (.ref a6), .val (.long q7), .second] [(.ref a1)]))
  refine own_st (fun t k => XS.lload X50.here hx rfl (hb hby d15_32) rfl k) ?_
  show OGo p e below s _ _ (T50.setTop (mkF m 34 #[.val (.ref a1), .val .null, .val (.ref a3), .val (.long q4), .second, .val .null, .val (.ref a6), .val (.long q7), .second] [(.long q7), (.ref a1)]))
  obtain ⟨T51, hp51, X51, e51, Ww51, st51⟩ := putF X50 hx hZ hown (host := "") (Or.inl (hw _ (List.mem_of_getElem? (i := 91) rfl))) Via.refl e50 F_entry_a1 E_a1 (Or.inr ⟨(hw _ (List.mem_of_getElem? (i := 92) rfl)), rfl, hnm⟩) (hw _ (List.mem_of_getElem? (i := 75) rfl)) (ty := .long) (by decide) rfl rfl (g := (mkF m 34 #[.val (.ref a1), .val .null, .val (.ref a3), .val (.long q4), .second, .val .null, .val (.ref a6), .val (.long q7), .second] [(.long q7), (.ref a1)])) rfl rfl (hb hby d15_34)
  have Nf51 := Fr.snoc X51 Nf50 old_a1
  have Z0 := Nat.le_trans Z0 (Keep.of_wr Ww51).1
  have K0 := K0.wr Ww51 (Or.inl (List.mem_of_getElem? (i := 0) rfl))
  have E_a1 := E_a1.wr Ww51
  have F_key_a1 := F_key_a1.other Ww51 (Or.inr (slot_ne (Or.inr (hw _ (List.mem_of_getElem? (i := 82) rfl))) (Or.inr (hw _ (List.mem_of_getElem? (i := 92) rfl))) (by decide) (t := (.object "com/example/plain_keys/plainkeys/key/Key")) (t' := .long) (by decide) (by decide)))
  have F_name_a1 := F_name_a1.other Ww51 (Or.inr (slot_ne (Or.inr (hw _ (List.mem_of_getElem? (i := 84) rfl))) (Or.inr (hw _ (List.mem_of_getElem? (i := 92) rfl))) (by decide) (t := (.object "com/example/plain_keys/plainkeys/key/KeyName")) (t' := .long) (by decide) (by decide)))
  have F_usesLeft_a1 := F_usesLeft_a1.other Ww51 (Or.inr (slot_ne (Or.inr (hw _ (List.mem_of_getElem? (i := 86) rfl))) (Or.inr (hw _ (List.mem_of_getElem? (i := 92) rfl))) (by decide) (t := .long) (t' := .long) (by decide) (by decide)))
  have F_until_a1 := F_until_a1.other Ww51 (Or.inr (slot_ne (Or.inr (hw _ (List.mem_of_getElem? (i := 88) rfl))) (Or.inr (hw _ (List.mem_of_getElem? (i := 92) rfl))) (by decide) (t := (.object "java/time/Instant")) (t' := .long) (by decide) (by decide)))
  have F_refusal_a1 := F_refusal_a1.other Ww51 (Or.inr (slot_ne (Or.inr (hw _ (List.mem_of_getElem? (i := 90) rfl))) (Or.inr (hw _ (List.mem_of_getElem? (i := 92) rfl))) (by decide) (t := (.object "com/example/plain_keys/plainkeys/key/Refusal")) (t' := .long) (by decide) (by decide)))
  have F_entry_a1 := F_entry_a1.same Ww51
  refine own_st st51 ?_
  show OGo p e below s _ _ (T51.setTop (mkF m 37 #[.val (.ref a1), .val .null, .val (.ref a3), .val (.long q4), .second, .val .null, .val (.ref a6), .val (.long q7), .second] []))
  exact own_retV X51 hx hlk hret (hb hby d15_37) (by decide) (by decide) (⟨rfl, Nf51, (by rw [e51]; exact K0), (by rw [e51]; exact E_a1), (by rw [e51]; exact F_name_a1), (by rw [e51]; exact F_refusal_a1), (by rw [e51]; exact F_entry_a1)⟩)
theorem ef_14_RR (m : MethodId) (x0 : Addr) (x1 : Addr) : entryFrame m #[(.ref x0), (.ref x1)] 2 = mkF m 0 #[.val (.ref x0), .val (.ref x1)] [] := by first | (simp [entryFrame, mkF, argsToLocals, Value.category]; done) | rfl
set_option maxRecDepth 65536 in
set_option maxHeartbeats 40000000 in
theorem rf1 (l : Launch) (Z : State) (a0 : Array Value) (hw : ∀ d ∈ tables_1, d.before a0 Z = true) (a1 : Addr) (a2 : Addr) (h0 : Heap) (n0 : Nat) (Z0 : n0 ≤ h0.size) :
    OMet l Z (⟨"com/example/plain_keys/plainkeys/key/Verdict", "refused", "(Lcom/example/plain_keys/plainkeys/key/Refusal;Lcom/example/plain_keys/plainkeys/key/KeyName;)Lcom/example/plain_keys/plainkeys/key/Verdict;"⟩ : MethodName) prog_24_method_5_code 2 (some (.object "com/example/plain_keys/plainkeys/key/Verdict")) [] ({ frames := 2, cells := 1, slots := 6, locals := 33 } : Room) #[(.ref a1), (.ref a2)] h0 (fun v h' L => ∃ v1 : Addr, v = some (.ref v1) ∧ Fr n0 L ∧ Keep h0 h' [] ∧ h0.size ≤ v1 ∧ Exa Z h' v1 "com/example/plain_keys/plainkeys/key/Verdict" ∧ Fld Z h' v1 "com/example/plain_keys/plainkeys/key/Verdict" "name" "Lcom/example/plain_keys/plainkeys/key/KeyName;" (.ref a2) ∧ Fld Z h' v1 "com/example/plain_keys/plainkeys/key/Verdict" "refusal" "Lcom/example/plain_keys/plainkeys/key/Refusal;" (.ref a1) ∧ Fld Z h' v1 "com/example/plain_keys/plainkeys/key/Verdict" "entry" "J" (.long (-1 : Int64))) := by
  refine own_body (plainFor_of_name pn_com_example_plain_keys_plainkeys_key_Verdict) (fun m => ef_14_RR m a1 a2) ?_
  intro p e s m below meth c T0 hx hby hml hown hnm hret hlk hZ X0 e0
  have hown : s.vm.findClass "com/example/plain_keys/plainkeys/key/Verdict" = some m.cls := hown
  have hml : c.maxLocals = 2 := hml
  have N0 := Fr.nil n0
  have K0 := Keep.refl h0 []
  show OGo p e below s _ _ (T0.setTop (mkF m 0 #[.val (.ref a1), .val (.ref a2)] []))
  obtain ⟨T52, hp52, X52, e52, Ex52, Aa52, Dd52, -, st52⟩ := newO X0 hx hZ hown (hw _ (List.mem_of_getElem? (i := 74) rfl)) (hw _ (List.mem_of_getElem? (i := 75) rfl)) (hw _ (List.mem_of_getElem? (i := 72) rfl)) e0 (g := (mkF m 0 #[.val (.ref a1), .val (.ref a2)] [])) rfl (hb hby d14_0) (by decide) (by decide)
  obtain ⟨v1, gs52⟩ : ∃ z, z = h0.size := ⟨_, rfl⟩
  rw [← gs52] at Aa52 Dd52 st52
  have old_v1 : n0 ≤ v1 := Nat.le_trans Z0 (Nat.le_of_eq gs52.symm)
  have fr_v1 : h0.size ≤ v1 := Nat.le_trans K0.1 (Nat.le_of_eq gs52.symm)
  have K0 := K0.ext Ex52
  have Z0 := Nat.le_trans Z0 Ex52.1
  have E_v1 := Aa52
  have F_key_v1 : Fld Z hp52 v1 "com/example/plain_keys/plainkeys/key/Verdict" "key" "Lcom/example/plain_keys/plainkeys/key/Key;" .null := Dd52 (Or.inr (hw _ (List.mem_of_getElem? (i := 82) rfl))) (ty := (.object "com/example/plain_keys/plainkeys/key/Key")) (by decide)
  have F_name_v1 : Fld Z hp52 v1 "com/example/plain_keys/plainkeys/key/Verdict" "name" "Lcom/example/plain_keys/plainkeys/key/KeyName;" .null := Dd52 (Or.inr (hw _ (List.mem_of_getElem? (i := 84) rfl))) (ty := (.object "com/example/plain_keys/plainkeys/key/KeyName")) (by decide)
  have F_usesLeft_v1 : Fld Z hp52 v1 "com/example/plain_keys/plainkeys/key/Verdict" "usesLeft" "J" (.long (0 : Int64)) := Dd52 (Or.inr (hw _ (List.mem_of_getElem? (i := 86) rfl))) (ty := .long) (by decide)
  have F_until_v1 : Fld Z hp52 v1 "com/example/plain_keys/plainkeys/key/Verdict" "until" "Ljava/time/Instant;" .null := Dd52 (Or.inr (hw _ (List.mem_of_getElem? (i := 88) rfl))) (ty := (.object "java/time/Instant")) (by decide)
  have F_refusal_v1 : Fld Z hp52 v1 "com/example/plain_keys/plainkeys/key/Verdict" "refusal" "Lcom/example/plain_keys/plainkeys/key/Refusal;" .null := Dd52 (Or.inr (hw _ (List.mem_of_getElem? (i := 90) rfl))) (ty := (.object "com/example/plain_keys/plainkeys/key/Refusal")) (by decide)
  have F_entry_v1 : Fld Z hp52 v1 "com/example/plain_keys/plainkeys/key/Verdict" "entry" "J" (.long (0 : Int64)) := Dd52 (Or.inr (hw _ (List.mem_of_getElem? (i := 92) rfl))) (ty := .long) (by decide)
  refine own_st st52 ?_
  show OGo p e below s _ _ (T52.setTop (mkF m 3 #[.val (.ref a1), .val (.ref a2)] [(.ref v1)]))
  refine own_st (fun t k => XS.dup X52.here hx rfl (hb hby d14_3) rfl rfl k) ?_
  show OGo p e below s _ _ (T52.setTop (mkF m 4 #[.val (.ref a1), .val (.ref a2)] [(.ref v1), (.ref v1)]))
  refine own_st (fun t k => XS.aconstNull X52.here hx rfl (hb hby d14_4) k) ?_
  show OGo p e below s _ _ (T52.setTop (mkF m 5 #[.val (.ref a1), .val (.ref a2)] [.null, (.ref v1), (.ref v1)]))
  refine own_st (fun t k => XS.aloadN X52.here hx rfl (hb hby d14_5) rfl rfl k) ?_
  show OGo p e below s _ _ (T52.setTop (mkF m 6 #[.val (.ref a1), .val (.ref a2)] [(.ref a2), .null, (.ref v1), (.ref v1)]))
  refine own_st (fun t k => XS.lconst X52.here hx rfl (hb hby d14_6) k) ?_
  show OGo p e below s _ _ (T52.setTop (mkF m 7 #[.val (.ref a1), .val (.ref a2)] [(.long (0 : Int64)), (.ref a2), .null, (.ref v1), (.ref v1)]))
  refine own_st (fun t k => XS.aconstNull X52.here hx rfl (hb hby d14_7) k) ?_
  show OGo p e below s _ _ (T52.setTop (mkF m 8 #[.val (.ref a1), .val (.ref a2)] [.null, (.long (0 : Int64)), (.ref a2), .null, (.ref v1), (.ref v1)]))
  refine own_st (fun t k => XS.aloadN X52.here hx rfl (hb hby d14_8) rfl rfl k) ?_
  show OGo p e below s _ _ (T52.setTop (mkF m 9 #[.val (.ref a1), .val (.ref a2)] [(.ref a1), .null, (.long (0 : Int64)), (.ref a2), .null, (.ref v1), (.ref v1)]))
  refine own_st (X52.ldc2Long hx hown (mvT hZ (hw _ (List.mem_of_getElem? (i := 76) rfl))) (g := (mkF m 9 #[.val (.ref a1), .val (.ref a2)] [(.ref a1), .null, (.long (0 : Int64)), (.ref a2), .null, (.ref v1), (.ref v1)])) rfl (hb hby d14_9)) ?_
  show OGo p e below s _ _ (T52.setTop (mkF m 12 #[.val (.ref a1), .val (.ref a2)] [(.long (-1 : Int64)), (.ref a1), .null, (.long (0 : Int64)), (.ref a2), .null, (.ref v1), (.ref v1)]))
  obtain ⟨_, T53, Lc53, X53, hQ53, st53⟩ := own_callI X52 hx hZ (y := (⟨"com/example/plain_keys/plainkeys/key/Verdict", "<init>", "(Lcom/example/plain_keys/plainkeys/key/Key;Lcom/example/plain_keys/plainkeys/key/KeyName;JLjava/time/Instant;Lcom/example/plain_keys/plainkeys/key/Refusal;J)V"⟩ : MethodName)) (W := 1) rfl hown (hw _ (List.mem_of_getElem? (i := 77) rfl)) (hw _ (List.mem_of_getElem? (i := 78) rfl)) (hw _ (List.mem_of_getElem? (i := 79) rfl)) (hw _ (List.mem_of_getElem? (i := 72) rfl)) (by decide) (rv1 l Z a0 hw v1 a2 (0 : Int64) a1 (-1 : Int64) hp52 n0 Z0 old_v1 E_v1 F_key_v1 F_name_v1 F_usesLeft_v1 F_until_v1 F_refusal_v1 F_entry_v1) (by decide) (by decide) (a := v1) (g := (mkF m 12 #[.val (.ref a1), .val (.ref a2)] [(.long (-1 : Int64)), (.ref a1), .null, (.long (0 : Int64)), (.ref a2), .null, (.ref v1), (.ref v1)])) rfl (by rw [hml]; rfl) (argsL := [.null, (.ref a2), (.long (0 : Int64)), .null, (.ref a1), (.long (-1 : Int64))]) (rest := [(.ref v1)]) (lenOf pd_8 rfl) rfl (by show 2 * 0 + _ ≤ _; exact Nat.le_of_eq rfl) (hb hby d14_12) rfl e52 (by decide) (by decide)
  obtain ⟨rfl, Nq53, Kq53, q53_0, q53_1, q53_2, q53_3⟩ := hQ53
  have Z0 := Nat.le_trans Z0 Kq53.1
  have K0 := K0.trans Kq53 (allS (Or.inr fr_v1) all0)
  have Nr53 := Fr.app N0 Nq53
  have E_v1 := q53_0
  have F_name_v1 := q53_1
  have F_refusal_v1 := q53_2
  have F_entry_v1 := q53_3
  refine own_st st53 ?_
  show OGo p e below s _ _ (T53.setTop (mkF m 15 #[.val (.ref a1), .val (.ref a2)] [(.ref v1)]))
  exact own_retA X53 hx hlk hret rfl rfl (hb hby d14_15) (by decide) (by decide) (⟨v1, rfl, Nr53, K0, fr_v1, E_v1, F_name_v1, F_refusal_v1, F_entry_v1⟩)
theorem d16_0 : decode prog_24_method_6_code 0 = .ok (.aload_n 0, 1) := by decide +kernel
theorem d16_1 : decode prog_24_method_6_code 1 = .ok (.getfield 25, 3) := by decide +kernel
theorem d16_4 : decode prog_24_method_6_code 4 = .ok (.ifnonnull 7, 3) := by decide +kernel
theorem d16_11 : decode prog_24_method_6_code 11 = .ok (.iconst 0, 1) := by decide +kernel
theorem d16_12 : decode prog_24_method_6_code 12 = .ok (.ireturn, 1) := by decide +kernel
theorem ef_16_R (m : MethodId) (x0 : Addr) : entryFrame m #[(.ref x0)] 1 = mkF m 0 #[.val (.ref x0)] [] := by first | (simp [entryFrame, mkF, argsToLocals, Value.category]; done) | rfl
set_option maxRecDepth 65536 in
set_option maxHeartbeats 40000000 in
theorem ro (l : Launch) (Z : State) (a0 : Array Value) (hw : ∀ d ∈ tables_1, d.before a0 Z = true) (a1 : Addr) (r : Addr) (h0 : Heap) (F_refusal_a1 : Fld Z h0 a1 "com/example/plain_keys/plainkeys/key/Verdict" "refusal" "Lcom/example/plain_keys/plainkeys/key/Refusal;" (.ref r)) :
    OPure l Z (⟨"com/example/plain_keys/plainkeys/key/Verdict", "opens", "()Z"⟩ : MethodName) prog_24_method_6_code 1 (some .boolean) [] ({ frames := 0, cells := 0, slots := 0, locals := 0 } : Room) #[(.ref a1)] h0 (some (.int (0 : Int32))) := by
  refine own_body (plainFor_of_name pn_com_example_plain_keys_plainkeys_key_Verdict) (fun m => ef_16_R m a1) ?_
  intro p e s m below meth c T0 hx hby hml hown hnm hret hlk hZ X0 e0
  have hown : s.vm.findClass "com/example/plain_keys/plainkeys/key/Verdict" = some m.cls := hown
  have hml : c.maxLocals = 1 := hml
  show OGo p e below s _ _ (T0.setTop (mkF m 0 #[.val (.ref a1)] []))
  refine own_st (fun t k => XS.aloadN X0.here hx rfl (hb hby d16_0) rfl rfl k) ?_
  show OGo p e below s _ _ (T0.setTop (mkF m 1 #[.val (.ref a1)] [(.ref a1)]))
  obtain ⟨T54, X54, e54, st54⟩ := getF X0 hx hZ hown (host := "") (Or.inl (hw _ (List.mem_of_getElem? (i := 89) rfl))) Via.refl e0 F_refusal_a1 (g := (mkF m 1 #[.val (.ref a1)] [(.ref a1)])) rfl rfl (hb hby d16_1)
  refine own_st st54 ?_
  show OGo p e below s _ _ (T54.setTop (mkF m 4 #[.val (.ref a1)] [(.ref r)]))
  refine own_st (fun t k => XS.ifnonnullYes X54.here hx rfl (pc0 := 4) (pc' := 11) rfl (hb hby d16_4) rfl (by decide) (by decide) k) ?_
  show OGo p e below s _ _ (T54.setTop (mkF m 11 #[.val (.ref a1)] []))
  refine own_st (fun t k => XS.iconst X54.here hx rfl (hb hby d16_11) k) ?_
  show OGo p e below s _ _ (T54.setTop (mkF m 12 #[.val (.ref a1)] [(.int (0 : Int32))]))
  exact own_retN X54 hx hlk (t := .boolean) hret (by simp) (hb hby d16_12) (by decide) (by decide) (⟨rfl, rfl, e54⟩)
theorem d17_0 : decode prog_24_method_13_code 0 = .ok (.aload_n 0, 1) := by decide +kernel
theorem d17_1 : decode prog_24_method_13_code 1 = .ok (.invokevirtual 49, 3) := by decide +kernel
theorem pd_9 : parseMethodDescriptor "()Z" = some ⟨[], some .boolean⟩ := by decide +kernel
theorem d17_4 : decode prog_24_method_13_code 4 = .ok (.ifCond .eq 13, 3) := by decide +kernel
theorem d17_17 : decode prog_24_method_13_code 17 = .ok (.aload_n 0, 1) := by decide +kernel
theorem d17_18 : decode prog_24_method_13_code 18 = .ok (.getfield 25, 3) := by decide +kernel
theorem d17_21 : decode prog_24_method_13_code 21 = .ok (.areturn, 1) := by decide +kernel
theorem ef_17_R (m : MethodId) (x0 : Addr) : entryFrame m #[(.ref x0)] 1 = mkF m 0 #[.val (.ref x0)] [] := by first | (simp [entryFrame, mkF, argsToLocals, Value.category]; done) | rfl
set_option maxRecDepth 65536 in
set_option maxHeartbeats 40000000 in
theorem rg (l : Launch) (Z : State) (a0 : Array Value) (hw : ∀ d ∈ tables_1, d.before a0 Z = true) (a1 : Addr) (r : Addr) (h0 : Heap) (E_a1 : Exa Z h0 a1 "com/example/plain_keys/plainkeys/key/Verdict") (F_refusal_a1 : Fld Z h0 a1 "com/example/plain_keys/plainkeys/key/Verdict" "refusal" "Lcom/example/plain_keys/plainkeys/key/Refusal;" (.ref r)) :
    OPure l Z (⟨"com/example/plain_keys/plainkeys/key/Verdict", "refusal", "()Lcom/example/plain_keys/plainkeys/key/Refusal;"⟩ : MethodName) prog_24_method_13_code 1 (some (.object "com/example/plain_keys/plainkeys/key/Refusal")) [] ({ frames := 1, cells := 0, slots := 0, locals := 12 } : Room) #[(.ref a1)] h0 (some (.ref r)) := by
  refine own_body (plainFor_of_name pn_com_example_plain_keys_plainkeys_key_Verdict) (fun m => ef_17_R m a1) ?_
  intro p e s m below meth c T0 hx hby hml hown hnm hret hlk hZ X0 e0
  have hown : s.vm.findClass "com/example/plain_keys/plainkeys/key/Verdict" = some m.cls := hown
  have hml : c.maxLocals = 1 := hml
  show OGo p e below s _ _ (T0.setTop (mkF m 0 #[.val (.ref a1)] []))
  refine own_st (fun t k => XS.aloadN X0.here hx rfl (hb hby d17_0) rfl rfl k) ?_
  show OGo p e below s _ _ (T0.setTop (mkF m 1 #[.val (.ref a1)] [(.ref a1)]))
  obtain ⟨T55, X55, e55, st55⟩ := own_callVP X0 hx hZ (y := (⟨"com/example/plain_keys/plainkeys/key/Verdict", "opens", "()Z"⟩ : MethodName)) (z := (⟨"com/example/plain_keys/plainkeys/key/Verdict", "opens", "()Z"⟩ : MethodName)) (W := 0) hown (hw _ (List.mem_of_getElem? (i := 103) rfl)) (hw _ (List.mem_of_getElem? (i := 94) rfl)) (notFace_of_selects (args := #[]) (mvT hZ (hw _ (List.mem_of_getElem? (i := 96) rfl)))) (hw _ (List.mem_of_getElem? (i := 96) rfl)) (hw _ (List.mem_of_getElem? (i := 95) rfl)) (hw _ (List.mem_of_getElem? (i := 97) rfl)) (hw _ (List.mem_of_getElem? (i := 72) rfl)) (by decide) (ro l Z a0 hw a1 r h0 F_refusal_a1) (by decide) (by decide) E_a1 (g := (mkF m 1 #[.val (.ref a1)] [(.ref a1)])) rfl (by rw [hml]; rfl) (argsL := []) (rest := []) (lenOf pd_9 rfl) rfl (by show 2 * 0 + _ ≤ _; exact Nat.le_of_eq rfl) (hb hby d17_1) rfl e0 (by decide) (by decide)
  refine own_st st55 ?_
  show OGo p e below s _ _ (T55.setTop (mkF m 4 #[.val (.ref a1)] [(.int (0 : Int32))]))
  refine own_st (fun t k => XS.ifYes X55.here hx rfl (pc0 := 4) (pc' := 17) rfl (hb hby d17_4) rfl ((if0 _ _).trans (teq ((by decide : (0 : Int32) = (0 : Int32)))).1) (by decide) (by decide) k) ?_
  show OGo p e below s _ _ (T55.setTop (mkF m 17 #[.val (.ref a1)] []))
  refine own_st (fun t k => XS.aloadN X55.here hx rfl (hb hby d17_17) rfl rfl k) ?_
  show OGo p e below s _ _ (T55.setTop (mkF m 18 #[.val (.ref a1)] [(.ref a1)]))
  obtain ⟨T56, X56, e56, st56⟩ := getF X55 hx hZ hown (host := "") (Or.inl (hw _ (List.mem_of_getElem? (i := 89) rfl))) Via.refl e55 F_refusal_a1 (g := (mkF m 18 #[.val (.ref a1)] [(.ref a1)])) rfl rfl (hb hby d17_18)
  refine own_st st56 ?_
  show OGo p e below s _ _ (T56.setTop (mkF m 21 #[.val (.ref a1)] [(.ref r)]))
  exact own_retA X56 hx hlk hret rfl rfl (hb hby d17_21) (by decide) (by decide) (⟨rfl, rfl, e56⟩)
theorem d19_0 : decode jdk_2650_method_2_code 0 = .ok (.getstatic 17, 3) := by decide +kernel
theorem d19_3 : decode jdk_2650_method_2_code 3 = .ok (.areturn, 1) := by decide +kernel
theorem pn_java_util_OptionalLong : plainName "java/util/OptionalLong" = true := by first | (simp [plainName, overriddenIn]; done) | decide +kernel
theorem ef_19_ (m : MethodId) : entryFrame m #[] 0 = mkF m 0 #[] [] := by first | (simp [entryFrame, mkF, argsToLocals, Value.category]; done) | rfl
set_option maxRecDepth 65536 in
set_option maxHeartbeats 40000000 in
theorem re (l : Launch) (Z : State) (a0 : Array Value) (hw : ∀ d ∈ tables_1, d.before a0 Z = true) (ol : Addr) (h0 : Heap) (S_EMPTY : Sta Z h0 "java/util/OptionalLong" "EMPTY" "Ljava/util/OptionalLong;" (.ref ol)) :
    OPure l Z (⟨"java/util/OptionalLong", "empty", "()Ljava/util/OptionalLong;"⟩ : MethodName) jdk_2650_method_2_code 0 (some (.object "java/util/OptionalLong")) [] ({ frames := 0, cells := 0, slots := 0, locals := 0 } : Room) #[] h0 (some (.ref ol)) := by
  refine own_body (plainFor_of_name pn_java_util_OptionalLong) (fun m => ef_19_ m ) ?_
  intro p e s m below meth c T0 hx hby hml hown hnm hret hlk hZ X0 e0
  have hown : s.vm.findClass "java/util/OptionalLong" = some m.cls := hown
  have hml : c.maxLocals = 0 := hml
  show OGo p e below s _ _ (T0.setTop (mkF m 0 #[] []))
  obtain ⟨T57, X57, e57, st57⟩ := getS2 X0 hx hZ hown (host := "") (Or.inl (hw _ (List.mem_of_getElem? (i := 113) rfl))) Via.refl e0 S_EMPTY (g := (mkF m 0 #[] [])) rfl (hb hby d19_0)
  refine own_st st57 ?_
  show OGo p e below s _ _ (T57.setTop (mkF m 3 #[] [(.ref ol)]))
  exact own_retA X57 hx hlk hret rfl rfl (hb hby d19_3) (by decide) (by decide) (⟨rfl, rfl, e57⟩)
theorem d18_0 : decode prog_24_method_10_code 0 = .ok (.aload_n 0, 1) := by decide +kernel
theorem d18_1 : decode prog_24_method_10_code 1 = .ok (.getfield 29, 3) := by decide +kernel
theorem d18_4 : decode prog_24_method_10_code 4 = .ok (.ldc2_w 32, 3) := by decide +kernel
theorem d18_7 : decode prog_24_method_10_code 7 = .ok (.lcmp, 1) := by decide +kernel
theorem d18_8 : decode prog_24_method_10_code 8 = .ok (.ifCond .ne 9, 3) := by decide +kernel
theorem d18_11 : decode prog_24_method_10_code 11 = .ok (.invokestatic 74, 3) := by decide +kernel
theorem pd_10 : parseMethodDescriptor "()Ljava/util/OptionalLong;" = some ⟨[], some (.object "java/util/OptionalLong")⟩ := by decide +kernel
theorem d18_14 : decode prog_24_method_10_code 14 = .ok (.goto 10, 3) := by decide +kernel
theorem d18_24 : decode prog_24_method_10_code 24 = .ok (.areturn, 1) := by decide +kernel
theorem ef_18_R (m : MethodId) (x0 : Addr) : entryFrame m #[(.ref x0)] 1 = mkF m 0 #[.val (.ref x0)] [] := by first | (simp [entryFrame, mkF, argsToLocals, Value.category]; done) | rfl
set_option maxRecDepth 65536 in
set_option maxHeartbeats 40000000 in
theorem rh (l : Launch) (Z : State) (a0 : Array Value) (hw : ∀ d ∈ tables_1, d.before a0 Z = true) (a1 : Addr) (ol : Addr) (h0 : Heap) (F_entry_a1 : Fld Z h0 a1 "com/example/plain_keys/plainkeys/key/Verdict" "entry" "J" (.long (-1 : Int64))) (S_EMPTY : Sta Z h0 "java/util/OptionalLong" "EMPTY" "Ljava/util/OptionalLong;" (.ref ol)) :
    OPure l Z (⟨"com/example/plain_keys/plainkeys/key/Verdict", "entry", "()Ljava/util/OptionalLong;"⟩ : MethodName) prog_24_method_10_code 1 (some (.object "java/util/OptionalLong")) [] ({ frames := 1, cells := 0, slots := 0, locals := 11 } : Room) #[(.ref a1)] h0 (some (.ref ol)) := by
  refine own_body (plainFor_of_name pn_com_example_plain_keys_plainkeys_key_Verdict) (fun m => ef_18_R m a1) ?_
  intro p e s m below meth c T0 hx hby hml hown hnm hret hlk hZ X0 e0
  have hown : s.vm.findClass "com/example/plain_keys/plainkeys/key/Verdict" = some m.cls := hown
  have hml : c.maxLocals = 1 := hml
  show OGo p e below s _ _ (T0.setTop (mkF m 0 #[.val (.ref a1)] []))
  refine own_st (fun t k => XS.aloadN X0.here hx rfl (hb hby d18_0) rfl rfl k) ?_
  show OGo p e below s _ _ (T0.setTop (mkF m 1 #[.val (.ref a1)] [(.ref a1)]))
  obtain ⟨T58, X58, e58, st58⟩ := getF X0 hx hZ hown (host := "") (Or.inl (hw _ (List.mem_of_getElem? (i := 91) rfl))) Via.refl e0 F_entry_a1 (g := (mkF m 1 #[.val (.ref a1)] [(.ref a1)])) rfl rfl (hb hby d18_1)
  refine own_st st58 ?_
  show OGo p e below s _ _ (T58.setTop (mkF m 4 #[.val (.ref a1)] [(.long (-1 : Int64))]))
  refine own_st (X58.ldc2Long hx hown (mvT hZ (hw _ (List.mem_of_getElem? (i := 76) rfl))) (g := (mkF m 4 #[.val (.ref a1)] [(.long (-1 : Int64))])) rfl (hb hby d18_4)) ?_
  show OGo p e below s _ _ (T58.setTop (mkF m 7 #[.val (.ref a1)] [(.long (-1 : Int64)), (.long (-1 : Int64))]))
  refine own_st (fun t k => XS.lcmp X58.here hx rfl (hb hby d18_7) rfl k) ?_
  show OGo p e below s _ _ (T58.setTop (mkF m 8 #[.val (.ref a1)] [(.int (lcmpW (-1 : Int64) (-1 : Int64)))]))
  refine own_st (fun t k => XS.ifNo X58.here hx rfl (hb hby d18_8) rfl ((if0 _ _).trans (teq ((lw_eq (-1 : Int64) (-1 : Int64)).mpr (by decide : (-1 : Int64) = (-1 : Int64)))).2) k) ?_
  show OGo p e below s _ _ (T58.setTop (mkF m 11 #[.val (.ref a1)] []))
  obtain ⟨T59, X59, e59, st59⟩ := own_callSP X58 hx hZ (y := (⟨"java/util/OptionalLong", "empty", "()Ljava/util/OptionalLong;"⟩ : MethodName)) (W := 0) hown (hw _ (List.mem_of_getElem? (i := 109) rfl)) (hw _ (List.mem_of_getElem? (i := 110) rfl)) (hw _ (List.mem_of_getElem? (i := 111) rfl)) (hw _ (List.mem_of_getElem? (i := 112) rfl)) (by decide) (re l Z a0 hw ol h0 S_EMPTY) (by decide) (by decide) (g := (mkF m 11 #[.val (.ref a1)] [])) rfl (by rw [hml]; rfl) (argsL := []) (rest := []) (lenOf pd_10 rfl) rfl (by show 2 * 0 + _ ≤ _; exact Nat.le_of_eq rfl) (hb hby d18_11) rfl e58 (by decide) (by decide)
  refine own_st st59 ?_
  show OGo p e below s _ _ (T59.setTop (mkF m 14 #[.val (.ref a1)] [(.ref ol)]))
  refine own_st (fun t k => XS.goto X59.here hx rfl (pc0 := 14) (pc' := 24) rfl (hb hby d18_14) (by decide) (by decide) k) ?_
  show OGo p e below s _ _ (T59.setTop (mkF m 24 #[.val (.ref a1)] [(.ref ol)]))
  exact own_retA X59 hx hlk hret rfl rfl (hb hby d18_24) (by decide) (by decide) (⟨rfl, rfl, e59⟩)
theorem d20_0 : decode jdk_2650_method_6_code 0 = .ok (.aload_n 0, 1) := by decide +kernel
theorem d20_1 : decode jdk_2650_method_6_code 1 = .ok (.getfield 7, 3) := by decide +kernel
theorem d20_4 : decode jdk_2650_method_6_code 4 = .ok (.ireturn, 1) := by decide +kernel
theorem ef_20_R (m : MethodId) (x0 : Addr) : entryFrame m #[(.ref x0)] 1 = mkF m 0 #[.val (.ref x0)] [] := by first | (simp [entryFrame, mkF, argsToLocals, Value.category]; done) | rfl
set_option maxRecDepth 65536 in
set_option maxHeartbeats 40000000 in
theorem ri (l : Launch) (Z : State) (a0 : Array Value) (hw : ∀ d ∈ tables_1, d.before a0 Z = true) (a1 : Addr) (h0 : Heap) (F_isPresent_a1 : Fld Z h0 a1 "java/util/OptionalLong" "isPresent" "Z" (.int (0 : Int32))) :
    OPure l Z (⟨"java/util/OptionalLong", "isPresent", "()Z"⟩ : MethodName) jdk_2650_method_6_code 1 (some .boolean) [] ({ frames := 0, cells := 0, slots := 0, locals := 0 } : Room) #[(.ref a1)] h0 (some (.int (0 : Int32))) := by
  refine own_body (plainFor_of_name pn_java_util_OptionalLong) (fun m => ef_20_R m a1) ?_
  intro p e s m below meth c T0 hx hby hml hown hnm hret hlk hZ X0 e0
  have hown : s.vm.findClass "java/util/OptionalLong" = some m.cls := hown
  have hml : c.maxLocals = 1 := hml
  show OGo p e below s _ _ (T0.setTop (mkF m 0 #[.val (.ref a1)] []))
  refine own_st (fun t k => XS.aloadN X0.here hx rfl (hb hby d20_0) rfl rfl k) ?_
  show OGo p e below s _ _ (T0.setTop (mkF m 1 #[.val (.ref a1)] [(.ref a1)]))
  obtain ⟨T60, X60, e60, st60⟩ := getF X0 hx hZ hown (host := "") (Or.inl (hw _ (List.mem_of_getElem? (i := 119) rfl))) Via.refl e0 F_isPresent_a1 (g := (mkF m 1 #[.val (.ref a1)] [(.ref a1)])) rfl rfl (hb hby d20_1)
  refine own_st st60 ?_
  show OGo p e below s _ _ (T60.setTop (mkF m 4 #[.val (.ref a1)] [(.int (0 : Int32))]))
  exact own_retN X60 hx hlk (t := .boolean) hret (by simp) (hb hby d20_4) (by decide) (by decide) (⟨rfl, rfl, e60⟩)
theorem d23_0 : decode jdk_32_method_2_code 0 = .ok (.aload_n 0, 1) := by decide +kernel
theorem d23_1 : decode jdk_32_method_2_code 1 = .ok (.invokespecial 7, 3) := by decide +kernel
theorem d23_4 : decode jdk_32_method_2_code 4 = .ok (.aload_n 0, 1) := by decide +kernel
theorem d23_5 : decode jdk_32_method_2_code 5 = .ok (.aload_n 1, 1) := by decide +kernel
theorem d23_6 : decode jdk_32_method_2_code 6 = .ok (.putfield 13, 3) := by decide +kernel
theorem d23_9 : decode jdk_32_method_2_code 9 = .ok (.return_, 1) := by decide +kernel
theorem pn_java_util_Optional : plainName "java/util/Optional" = true := by first | (simp [plainName, overriddenIn]; done) | decide +kernel
theorem ef_23_RR (m : MethodId) (x0 : Addr) (x1 : Addr) : entryFrame m #[(.ref x0), (.ref x1)] 2 = mkF m 0 #[.val (.ref x0), .val (.ref x1)] [] := by first | (simp [entryFrame, mkF, argsToLocals, Value.category]; done) | rfl
set_option maxRecDepth 65536 in
set_option maxHeartbeats 40000000 in
theorem rj (l : Launch) (Z : State) (a0 : Array Value) (hw : ∀ d ∈ tables_1, d.before a0 Z = true) (a1 : Addr) (a2 : Addr) (h0 : Heap) (n0 : Nat) (Z0 : n0 ≤ h0.size) (old_a1 : n0 ≤ a1) (E_a1 : Exa Z h0 a1 "java/util/Optional") (F_value_a1 : Fld Z h0 a1 "java/util/Optional" "value" "Ljava/lang/Object;" .null) :
    OMet l Z (⟨"java/util/Optional", "<init>", "(Ljava/lang/Object;)V"⟩ : MethodName) jdk_32_method_2_code 2 none [] ({ frames := 1, cells := 0, slots := 0, locals := 12 } : Room) #[(.ref a1), (.ref a2)] h0 (fun v h' L => v = none ∧ Fr n0 L ∧ Keep h0 h' [a1] ∧ Exa Z h' a1 "java/util/Optional" ∧ Fld Z h' a1 "java/util/Optional" "value" "Ljava/lang/Object;" (.ref a2)) := by
  refine own_body (plainFor_of_name pn_java_util_Optional) (fun m => ef_23_RR m a1 a2) ?_
  intro p e s m below meth c T0 hx hby hml hown hnm hret hlk hZ X0 e0
  have hown : s.vm.findClass "java/util/Optional" = some m.cls := hown
  have hml : c.maxLocals = 2 := hml
  have N0 := Fr.nil n0
  have K0 := Keep.refl h0 [a1]
  show OGo p e below s _ _ (T0.setTop (mkF m 0 #[.val (.ref a1), .val (.ref a2)] []))
  refine own_st (fun t k => XS.aloadN X0.here hx rfl (hb hby d23_0) rfl rfl k) ?_
  show OGo p e below s _ _ (T0.setTop (mkF m 1 #[.val (.ref a1), .val (.ref a2)] [(.ref a1)]))
  obtain ⟨T61, X61, e61, st61⟩ := initO X0 hx hZ hown (hw _ (List.mem_of_getElem? (i := 136) rfl)) (hw _ (List.mem_of_getElem? (i := 20) rfl)) (hw _ (List.mem_of_getElem? (i := 21) rfl)) e0 (g := (mkF m 1 #[.val (.ref a1), .val (.ref a2)] [(.ref a1)])) rfl (by rw [hml]; rfl) rfl (hb hby d23_1) (by decide) (W := 0) (by show 2 * 0 + _ ≤ _; exact Nat.le_of_eq rfl) (by decide)
  refine own_st st61 ?_
  show OGo p e below s _ _ (T61.setTop (mkF m 4 #[.val (.ref a1), .val (.ref a2)] []))
  refine own_st (fun t k => XS.aloadN X61.here hx rfl (hb hby d23_4) rfl rfl k) ?_
  show OGo p e below s _ _ (T61.setTop (mkF m 5 #[.val (.ref a1), .val (.ref a2)] [(.ref a1)]))
  refine own_st (fun t k => XS.aloadN X61.here hx rfl (hb hby d23_5) rfl rfl k) ?_
  show OGo p e below s _ _ (T61.setTop (mkF m 6 #[.val (.ref a1), .val (.ref a2)] [(.ref a2), (.ref a1)]))
  obtain ⟨T62, hp62, X62, e62, Ww62, st62⟩ := putF X61 hx hZ hown (host := "") (Or.inl (hw _ (List.mem_of_getElem? (i := 137) rfl))) Via.refl e61 F_value_a1 E_a1 (Or.inr ⟨(hw _ (List.mem_of_getElem? (i := 138) rfl)), rfl, hnm⟩) (hw _ (List.mem_of_getElem? (i := 131) rfl)) (ty := (.object "java/lang/Object")) (by decide) rfl rfl (g := (mkF m 6 #[.val (.ref a1), .val (.ref a2)] [(.ref a2), (.ref a1)])) rfl rfl (hb hby d23_6)
  have Nf62 := Fr.snoc X62 N0 old_a1
  have Z0 := Nat.le_trans Z0 (Keep.of_wr Ww62).1
  have K0 := K0.wr Ww62 (Or.inl (List.mem_of_getElem? (i := 0) rfl))
  have E_a1 := E_a1.wr Ww62
  have F_value_a1 := F_value_a1.same Ww62
  refine own_st st62 ?_
  show OGo p e below s _ _ (T62.setTop (mkF m 9 #[.val (.ref a1), .val (.ref a2)] []))
  exact own_retV X62 hx hlk hret (hb hby d23_9) (by decide) (by decide) (⟨rfl, Nf62, (by rw [e62]; exact K0), (by rw [e62]; exact E_a1), (by rw [e62]; exact F_value_a1)⟩)
theorem d22_0 : decode jdk_32_method_4_code 0 = .ok (.aload_n 0, 1) := by decide +kernel
theorem d22_1 : decode jdk_32_method_4_code 1 = .ok (.ifnonnull 9, 3) := by decide +kernel
theorem d22_4 : decode jdk_32_method_4_code 4 = .ok (.getstatic 1, 3) := by decide +kernel
theorem d22_7 : decode jdk_32_method_4_code 7 = .ok (.goto 11, 3) := by decide +kernel
theorem d22_18 : decode jdk_32_method_4_code 18 = .ok (.areturn, 1) := by decide +kernel
theorem ef_22_0 (m : MethodId) : entryFrame m #[.null] 1 = mkF m 0 #[.val .null] [] := by first | (simp [entryFrame, mkF, argsToLocals, Value.category]; done) | rfl
set_option maxRecDepth 65536 in
set_option maxHeartbeats 40000000 in
theorem rl0 (l : Launch) (Z : State) (a0 : Array Value) (hw : ∀ d ∈ tables_1, d.before a0 Z = true) (oe : Addr) (h0 : Heap) (S_EMPTY : Sta Z h0 "java/util/Optional" "EMPTY" "Ljava/util/Optional;" (.ref oe)) :
    OPure l Z (⟨"java/util/Optional", "ofNullable", "(Ljava/lang/Object;)Ljava/util/Optional;"⟩ : MethodName) jdk_32_method_4_code 1 (some (.object "java/util/Optional")) [] ({ frames := 0, cells := 0, slots := 0, locals := 0 } : Room) #[.null] h0 (some (.ref oe)) := by
  refine own_body (plainFor_of_name pn_java_util_Optional) (fun m => ef_22_0 m ) ?_
  intro p e s m below meth c T0 hx hby hml hown hnm hret hlk hZ X0 e0
  have hown : s.vm.findClass "java/util/Optional" = some m.cls := hown
  have hml : c.maxLocals = 1 := hml
  show OGo p e below s _ _ (T0.setTop (mkF m 0 #[.val .null] []))
  refine own_st (fun t k => XS.aloadN X0.here hx rfl (hb hby d22_0) rfl rfl k) ?_
  show OGo p e below s _ _ (T0.setTop (mkF m 1 #[.val .null] [.null]))
  refine own_st (fun t k => XS.ifnonnullNo X0.here hx rfl (hb hby d22_1) rfl k) ?_
  show OGo p e below s _ _ (T0.setTop (mkF m 4 #[.val .null] []))
  obtain ⟨T63, X63, e63, st63⟩ := getS2 X0 hx hZ hown (host := "") (Or.inl (hw _ (List.mem_of_getElem? (i := 151) rfl))) Via.refl e0 S_EMPTY (g := (mkF m 4 #[.val .null] [])) rfl (hb hby d22_4)
  refine own_st st63 ?_
  show OGo p e below s _ _ (T63.setTop (mkF m 7 #[.val .null] [(.ref oe)]))
  refine own_st (fun t k => XS.goto X63.here hx rfl (pc0 := 7) (pc' := 18) rfl (hb hby d22_7) (by decide) (by decide) k) ?_
  show OGo p e below s _ _ (T63.setTop (mkF m 18 #[.val .null] [(.ref oe)]))
  exact own_retA X63 hx hlk hret rfl rfl (hb hby d22_18) (by decide) (by decide) (⟨rfl, rfl, e63⟩)
theorem d22_10 : decode jdk_32_method_4_code 10 = .ok (.new 2, 3) := by decide +kernel
theorem d22_13 : decode jdk_32_method_4_code 13 = .ok (.dup, 1) := by decide +kernel
theorem d22_14 : decode jdk_32_method_4_code 14 = .ok (.aload_n 0, 1) := by decide +kernel
theorem d22_15 : decode jdk_32_method_4_code 15 = .ok (.invokespecial 23, 3) := by decide +kernel
theorem pd_11 : parseMethodDescriptor "(Ljava/lang/Object;)V" = some ⟨[(.object "java/lang/Object")], none⟩ := by decide +kernel
theorem ef_22_R (m : MethodId) (x0 : Addr) : entryFrame m #[(.ref x0)] 1 = mkF m 0 #[.val (.ref x0)] [] := by first | (simp [entryFrame, mkF, argsToLocals, Value.category]; done) | rfl
set_option maxRecDepth 65536 in
set_option maxHeartbeats 40000000 in
theorem rl1 (l : Launch) (Z : State) (a0 : Array Value) (hw : ∀ d ∈ tables_1, d.before a0 Z = true) (a1 : Addr) (h0 : Heap) (n0 : Nat) (Z0 : n0 ≤ h0.size) :
    OMet l Z (⟨"java/util/Optional", "ofNullable", "(Ljava/lang/Object;)Ljava/util/Optional;"⟩ : MethodName) jdk_32_method_4_code 1 (some (.object "java/util/Optional")) [] ({ frames := 2, cells := 1, slots := 1, locals := 26 } : Room) #[(.ref a1)] h0 (fun v h' L => ∃ o1 : Addr, v = some (.ref o1) ∧ Fr n0 L ∧ Keep h0 h' [] ∧ h0.size ≤ o1 ∧ Exa Z h' o1 "java/util/Optional" ∧ Fld Z h' o1 "java/util/Optional" "value" "Ljava/lang/Object;" (.ref a1)) := by
  refine own_body (plainFor_of_name pn_java_util_Optional) (fun m => ef_22_R m a1) ?_
  intro p e s m below meth c T0 hx hby hml hown hnm hret hlk hZ X0 e0
  have hown : s.vm.findClass "java/util/Optional" = some m.cls := hown
  have hml : c.maxLocals = 1 := hml
  have N0 := Fr.nil n0
  have K0 := Keep.refl h0 []
  show OGo p e below s _ _ (T0.setTop (mkF m 0 #[.val (.ref a1)] []))
  refine own_st (fun t k => XS.aloadN X0.here hx rfl (hb hby d22_0) rfl rfl k) ?_
  show OGo p e below s _ _ (T0.setTop (mkF m 1 #[.val (.ref a1)] [(.ref a1)]))
  refine own_st (fun t k => XS.ifnonnullYes X0.here hx rfl (pc0 := 1) (pc' := 10) rfl (hb hby d22_1) rfl (by decide) (by decide) k) ?_
  show OGo p e below s _ _ (T0.setTop (mkF m 10 #[.val (.ref a1)] []))
  obtain ⟨T64, hp64, X64, e64, Ex64, Aa64, Dd64, -, st64⟩ := newO X0 hx hZ hown (hw _ (List.mem_of_getElem? (i := 130) rfl)) (hw _ (List.mem_of_getElem? (i := 131) rfl)) (hw _ (List.mem_of_getElem? (i := 128) rfl)) e0 (g := (mkF m 10 #[.val (.ref a1)] [])) rfl (hb hby d22_10) (by decide) (by decide)
  obtain ⟨o1, gs64⟩ : ∃ z, z = h0.size := ⟨_, rfl⟩
  rw [← gs64] at Aa64 Dd64 st64
  have old_o1 : n0 ≤ o1 := Nat.le_trans Z0 (Nat.le_of_eq gs64.symm)
  have fr_o1 : h0.size ≤ o1 := Nat.le_trans K0.1 (Nat.le_of_eq gs64.symm)
  have K0 := K0.ext Ex64
  have Z0 := Nat.le_trans Z0 Ex64.1
  have E_o1 := Aa64
  have F_value_o1 : Fld Z hp64 o1 "java/util/Optional" "value" "Ljava/lang/Object;" .null := Dd64 (Or.inr (hw _ (List.mem_of_getElem? (i := 138) rfl))) (ty := (.object "java/lang/Object")) (by decide)
  refine own_st st64 ?_
  show OGo p e below s _ _ (T64.setTop (mkF m 13 #[.val (.ref a1)] [(.ref o1)]))
  refine own_st (fun t k => XS.dup X64.here hx rfl (hb hby d22_13) rfl rfl k) ?_
  show OGo p e below s _ _ (T64.setTop (mkF m 14 #[.val (.ref a1)] [(.ref o1), (.ref o1)]))
  refine own_st (fun t k => XS.aloadN X64.here hx rfl (hb hby d22_14) rfl rfl k) ?_
  show OGo p e below s _ _ (T64.setTop (mkF m 15 #[.val (.ref a1)] [(.ref a1), (.ref o1), (.ref o1)]))
  obtain ⟨_, T65, Lc65, X65, hQ65, st65⟩ := own_callI X64 hx hZ (y := (⟨"java/util/Optional", "<init>", "(Ljava/lang/Object;)V"⟩ : MethodName)) (W := 1) rfl hown (hw _ (List.mem_of_getElem? (i := 132) rfl)) (hw _ (List.mem_of_getElem? (i := 133) rfl)) (hw _ (List.mem_of_getElem? (i := 135) rfl)) (hw _ (List.mem_of_getElem? (i := 128) rfl)) (by decide) (rj l Z a0 hw o1 a1 hp64 n0 Z0 old_o1 E_o1 F_value_o1) (by decide) (by decide) (a := o1) (g := (mkF m 15 #[.val (.ref a1)] [(.ref a1), (.ref o1), (.ref o1)])) rfl (by rw [hml]; rfl) (argsL := [(.ref a1)]) (rest := [(.ref o1)]) (lenOf pd_11 rfl) rfl (by show 2 * 0 + _ ≤ _; exact Nat.le_of_eq rfl) (hb hby d22_15) rfl e64 (by decide) (by decide)
  obtain ⟨rfl, Nq65, Kq65, q65_0, q65_1⟩ := hQ65
  have Z0 := Nat.le_trans Z0 Kq65.1
  have K0 := K0.trans Kq65 (allS (Or.inr fr_o1) all0)
  have Nr65 := Fr.app N0 Nq65
  have E_o1 := q65_0
  have F_value_o1 := q65_1
  refine own_st st65 ?_
  show OGo p e below s _ _ (T65.setTop (mkF m 18 #[.val (.ref a1)] [(.ref o1)]))
  exact own_retA X65 hx hlk hret rfl rfl (hb hby d22_18) (by decide) (by decide) (⟨o1, rfl, Nr65, K0, fr_o1, E_o1, F_value_o1⟩)
theorem d21_0 : decode prog_24_method_9_code 0 = .ok (.aload_n 0, 1) := by decide +kernel
theorem d21_1 : decode prog_24_method_9_code 1 = .ok (.getfield 13, 3) := by decide +kernel
theorem d21_4 : decode prog_24_method_9_code 4 = .ok (.invokestatic 68, 3) := by decide +kernel
theorem pd_12 : parseMethodDescriptor "(Ljava/lang/Object;)Ljava/util/Optional;" = some ⟨[(.object "java/lang/Object")], some (.object "java/util/Optional")⟩ := by decide +kernel
theorem d21_7 : decode prog_24_method_9_code 7 = .ok (.areturn, 1) := by decide +kernel
theorem ef_21_R (m : MethodId) (x0 : Addr) : entryFrame m #[(.ref x0)] 1 = mkF m 0 #[.val (.ref x0)] [] := by first | (simp [entryFrame, mkF, argsToLocals, Value.category]; done) | rfl
set_option maxRecDepth 65536 in
set_option maxHeartbeats 40000000 in
theorem rkn0 (l : Launch) (Z : State) (a0 : Array Value) (hw : ∀ d ∈ tables_1, d.before a0 Z = true) (a1 : Addr) (oe : Addr) (h0 : Heap) (F_name_a1 : Fld Z h0 a1 "com/example/plain_keys/plainkeys/key/Verdict" "name" "Lcom/example/plain_keys/plainkeys/key/KeyName;" .null) (S_EMPTY : Sta Z h0 "java/util/Optional" "EMPTY" "Ljava/util/Optional;" (.ref oe)) :
    OPure l Z (⟨"com/example/plain_keys/plainkeys/key/Verdict", "keyName", "()Ljava/util/Optional;"⟩ : MethodName) prog_24_method_9_code 1 (some (.object "java/util/Optional")) [] ({ frames := 1, cells := 0, slots := 0, locals := 12 } : Room) #[(.ref a1)] h0 (some (.ref oe)) := by
  refine own_body (plainFor_of_name pn_com_example_plain_keys_plainkeys_key_Verdict) (fun m => ef_21_R m a1) ?_
  intro p e s m below meth c T0 hx hby hml hown hnm hret hlk hZ X0 e0
  have hown : s.vm.findClass "com/example/plain_keys/plainkeys/key/Verdict" = some m.cls := hown
  have hml : c.maxLocals = 1 := hml
  show OGo p e below s _ _ (T0.setTop (mkF m 0 #[.val (.ref a1)] []))
  refine own_st (fun t k => XS.aloadN X0.here hx rfl (hb hby d21_0) rfl rfl k) ?_
  show OGo p e below s _ _ (T0.setTop (mkF m 1 #[.val (.ref a1)] [(.ref a1)]))
  obtain ⟨T66, X66, e66, st66⟩ := getF X0 hx hZ hown (host := "") (Or.inl (hw _ (List.mem_of_getElem? (i := 83) rfl))) Via.refl e0 F_name_a1 (g := (mkF m 1 #[.val (.ref a1)] [(.ref a1)])) rfl rfl (hb hby d21_1)
  refine own_st st66 ?_
  show OGo p e below s _ _ (T66.setTop (mkF m 4 #[.val (.ref a1)] [.null]))
  obtain ⟨T67, X67, e67, st67⟩ := own_callSP X66 hx hZ (y := (⟨"java/util/Optional", "ofNullable", "(Ljava/lang/Object;)Ljava/util/Optional;"⟩ : MethodName)) (W := 0) hown (hw _ (List.mem_of_getElem? (i := 126) rfl)) (hw _ (List.mem_of_getElem? (i := 127) rfl)) (hw _ (List.mem_of_getElem? (i := 128) rfl)) (hw _ (List.mem_of_getElem? (i := 129) rfl)) (by decide) (rl0 l Z a0 hw oe h0 S_EMPTY) (by decide) (by decide) (g := (mkF m 4 #[.val (.ref a1)] [.null])) rfl (by rw [hml]; rfl) (argsL := [.null]) (rest := []) (lenOf pd_12 rfl) rfl (by show 2 * 0 + _ ≤ _; exact Nat.le_of_eq rfl) (hb hby d21_4) rfl e66 (by decide) (by decide)
  refine own_st st67 ?_
  show OGo p e below s _ _ (T67.setTop (mkF m 7 #[.val (.ref a1)] [(.ref oe)]))
  exact own_retA X67 hx hlk hret rfl rfl (hb hby d21_7) (by decide) (by decide) (⟨rfl, rfl, e67⟩)

set_option maxRecDepth 65536 in
set_option maxHeartbeats 40000000 in
theorem rkn1 (l : Launch) (Z : State) (a0 : Array Value) (hw : ∀ d ∈ tables_1, d.before a0 Z = true) (a1 : Addr) (k : Addr) (h0 : Heap) (n0 : Nat) (Z0 : n0 ≤ h0.size) (F_name_a1 : Fld Z h0 a1 "com/example/plain_keys/plainkeys/key/Verdict" "name" "Lcom/example/plain_keys/plainkeys/key/KeyName;" (.ref k)) :
    OMet l Z (⟨"com/example/plain_keys/plainkeys/key/Verdict", "keyName", "()Ljava/util/Optional;"⟩ : MethodName) prog_24_method_9_code 1 (some (.object "java/util/Optional")) [] ({ frames := 3, cells := 1, slots := 1, locals := 38 } : Room) #[(.ref a1)] h0 (fun v h' L => ∃ o1 : Addr, v = some (.ref o1) ∧ Fr n0 L ∧ Keep h0 h' [] ∧ h0.size ≤ o1 ∧ Exa Z h' o1 "java/util/Optional" ∧ Fld Z h' o1 "java/util/Optional" "value" "Ljava/lang/Object;" (.ref k)) := by
  refine own_body (plainFor_of_name pn_com_example_plain_keys_plainkeys_key_Verdict) (fun m => ef_21_R m a1) ?_
  intro p e s m below meth c T0 hx hby hml hown hnm hret hlk hZ X0 e0
  have hown : s.vm.findClass "com/example/plain_keys/plainkeys/key/Verdict" = some m.cls := hown
  have hml : c.maxLocals = 1 := hml
  have N0 := Fr.nil n0
  have K0 := Keep.refl h0 []
  show OGo p e below s _ _ (T0.setTop (mkF m 0 #[.val (.ref a1)] []))
  refine own_st (fun t k => XS.aloadN X0.here hx rfl (hb hby d21_0) rfl rfl k) ?_
  show OGo p e below s _ _ (T0.setTop (mkF m 1 #[.val (.ref a1)] [(.ref a1)]))
  obtain ⟨T68, X68, e68, st68⟩ := getF X0 hx hZ hown (host := "") (Or.inl (hw _ (List.mem_of_getElem? (i := 83) rfl))) Via.refl e0 F_name_a1 (g := (mkF m 1 #[.val (.ref a1)] [(.ref a1)])) rfl rfl (hb hby d21_1)
  refine own_st st68 ?_
  show OGo p e below s _ _ (T68.setTop (mkF m 4 #[.val (.ref a1)] [(.ref k)]))
  obtain ⟨_, T69, Lc69, X69, hQ69, st69⟩ := own_callS X68 hx hZ (y := (⟨"java/util/Optional", "ofNullable", "(Ljava/lang/Object;)Ljava/util/Optional;"⟩ : MethodName)) (W := 0) hown (hw _ (List.mem_of_getElem? (i := 126) rfl)) (hw _ (List.mem_of_getElem? (i := 127) rfl)) (hw _ (List.mem_of_getElem? (i := 128) rfl)) (hw _ (List.mem_of_getElem? (i := 129) rfl)) (by decide) (rl1 l Z a0 hw k h0 n0 Z0) (by decide) (by decide) (g := (mkF m 4 #[.val (.ref a1)] [(.ref k)])) rfl (by rw [hml]; rfl) (argsL := [(.ref k)]) (rest := []) (lenOf pd_12 rfl) rfl (by show 2 * 0 + _ ≤ _; exact Nat.le_of_eq rfl) (hb hby d21_4) rfl e68 (by decide) (by decide)
  obtain ⟨o1, rfl, Nq69, Kq69, fq69_o1, q69_0, q69_1⟩ := hQ69
  have ne_a1_o1 : a1 ≠ o1 := Nat.ne_of_lt (Nat.lt_of_lt_of_le F_name_a1.lt fq69_o1)
  have old_o1 : n0 ≤ o1 := Nat.le_trans Z0 fq69_o1
  have fr_o1 : h0.size ≤ o1 := Nat.le_trans K0.1 fq69_o1
  have Z0 := Nat.le_trans Z0 Kq69.1
  have K0 := K0.trans Kq69 all0
  have F_name_a1 := F_name_a1.keep Kq69 nin0
  have Nr69 := Fr.app N0 Nq69
  have E_o1 := q69_0
  have F_value_o1 := q69_1
  refine own_st st69 ?_
  show OGo p e below s _ _ (T69.setTop (mkF m 7 #[.val (.ref a1)] [(.ref o1)]))
  exact own_retA X69 hx hlk hret rfl rfl (hb hby d21_7) (by decide) (by decide) (⟨o1, rfl, Nr69, K0, fr_o1, E_o1, F_value_o1⟩)
theorem d26_0 : decode jdk_32_method_7_code 0 = .ok (.aload_n 0, 1) := by decide +kernel
theorem d26_1 : decode jdk_32_method_7_code 1 = .ok (.getfield 13, 3) := by decide +kernel
theorem d26_4 : decode jdk_32_method_7_code 4 = .ok (.ifnonnull 7, 3) := by decide +kernel
theorem d26_7 : decode jdk_32_method_7_code 7 = .ok (.iconst 1, 1) := by decide +kernel
theorem d26_8 : decode jdk_32_method_7_code 8 = .ok (.goto 4, 3) := by decide +kernel
theorem d26_12 : decode jdk_32_method_7_code 12 = .ok (.ireturn, 1) := by decide +kernel
theorem ef_26_R (m : MethodId) (x0 : Addr) : entryFrame m #[(.ref x0)] 1 = mkF m 0 #[.val (.ref x0)] [] := by first | (simp [entryFrame, mkF, argsToLocals, Value.category]; done) | rfl
set_option maxRecDepth 65536 in
set_option maxHeartbeats 40000000 in
theorem rse (l : Launch) (Z : State) (a0 : Array Value) (hw : ∀ d ∈ tables_1, d.before a0 Z = true) (a1 : Addr) (h0 : Heap) (F_value_a1 : Fld Z h0 a1 "java/util/Optional" "value" "Ljava/lang/Object;" .null) :
    OPure l Z (⟨"java/util/Optional", "isEmpty", "()Z"⟩ : MethodName) jdk_32_method_7_code 1 (some .boolean) [] ({ frames := 0, cells := 0, slots := 0, locals := 0 } : Room) #[(.ref a1)] h0 (some (.int (1 : Int32))) := by
  refine own_body (plainFor_of_name pn_java_util_Optional) (fun m => ef_26_R m a1) ?_
  intro p e s m below meth c T0 hx hby hml hown hnm hret hlk hZ X0 e0
  have hown : s.vm.findClass "java/util/Optional" = some m.cls := hown
  have hml : c.maxLocals = 1 := hml
  show OGo p e below s _ _ (T0.setTop (mkF m 0 #[.val (.ref a1)] []))
  refine own_st (fun t k => XS.aloadN X0.here hx rfl (hb hby d26_0) rfl rfl k) ?_
  show OGo p e below s _ _ (T0.setTop (mkF m 1 #[.val (.ref a1)] [(.ref a1)]))
  obtain ⟨T70, X70, e70, st70⟩ := getF X0 hx hZ hown (host := "") (Or.inl (hw _ (List.mem_of_getElem? (i := 137) rfl))) Via.refl e0 F_value_a1 (g := (mkF m 1 #[.val (.ref a1)] [(.ref a1)])) rfl rfl (hb hby d26_1)
  refine own_st st70 ?_
  show OGo p e below s _ _ (T70.setTop (mkF m 4 #[.val (.ref a1)] [.null]))
  refine own_st (fun t k => XS.ifnonnullNo X70.here hx rfl (hb hby d26_4) rfl k) ?_
  show OGo p e below s _ _ (T70.setTop (mkF m 7 #[.val (.ref a1)] []))
  refine own_st (fun t k => XS.iconst X70.here hx rfl (hb hby d26_7) k) ?_
  show OGo p e below s _ _ (T70.setTop (mkF m 8 #[.val (.ref a1)] [(.int (1 : Int32))]))
  refine own_st (fun t k => XS.goto X70.here hx rfl (pc0 := 8) (pc' := 12) rfl (hb hby d26_8) (by decide) (by decide) k) ?_
  show OGo p e below s _ _ (T70.setTop (mkF m 12 #[.val (.ref a1)] [(.int (1 : Int32))]))
  exact own_retN X70 hx hlk (t := .boolean) hret (by simp) (hb hby d26_12) (by decide) (by decide) (⟨rfl, rfl, e70⟩)
theorem d24_0 : decode jdk_32_method_6_code 0 = .ok (.aload_n 0, 1) := by decide +kernel
theorem d24_1 : decode jdk_32_method_6_code 1 = .ok (.getfield 13, 3) := by decide +kernel
theorem d24_4 : decode jdk_32_method_6_code 4 = .ok (.ifnull 7, 3) := by decide +kernel
theorem d24_7 : decode jdk_32_method_6_code 7 = .ok (.iconst 1, 1) := by decide +kernel
theorem d24_8 : decode jdk_32_method_6_code 8 = .ok (.goto 4, 3) := by decide +kernel
theorem d24_12 : decode jdk_32_method_6_code 12 = .ok (.ireturn, 1) := by decide +kernel
theorem ef_24_R (m : MethodId) (x0 : Addr) : entryFrame m #[(.ref x0)] 1 = mkF m 0 #[.val (.ref x0)] [] := by first | (simp [entryFrame, mkF, argsToLocals, Value.category]; done) | rfl
set_option maxRecDepth 65536 in
set_option maxHeartbeats 40000000 in
theorem rsp (l : Launch) (Z : State) (a0 : Array Value) (hw : ∀ d ∈ tables_1, d.before a0 Z = true) (a1 : Addr) (k : Addr) (h0 : Heap) (F_value_a1 : Fld Z h0 a1 "java/util/Optional" "value" "Ljava/lang/Object;" (.ref k)) :
    OPure l Z (⟨"java/util/Optional", "isPresent", "()Z"⟩ : MethodName) jdk_32_method_6_code 1 (some .boolean) [] ({ frames := 0, cells := 0, slots := 0, locals := 0 } : Room) #[(.ref a1)] h0 (some (.int (1 : Int32))) := by
  refine own_body (plainFor_of_name pn_java_util_Optional) (fun m => ef_24_R m a1) ?_
  intro p e s m below meth c T0 hx hby hml hown hnm hret hlk hZ X0 e0
  have hown : s.vm.findClass "java/util/Optional" = some m.cls := hown
  have hml : c.maxLocals = 1 := hml
  show OGo p e below s _ _ (T0.setTop (mkF m 0 #[.val (.ref a1)] []))
  refine own_st (fun t k => XS.aloadN X0.here hx rfl (hb hby d24_0) rfl rfl k) ?_
  show OGo p e below s _ _ (T0.setTop (mkF m 1 #[.val (.ref a1)] [(.ref a1)]))
  obtain ⟨T71, X71, e71, st71⟩ := getF X0 hx hZ hown (host := "") (Or.inl (hw _ (List.mem_of_getElem? (i := 137) rfl))) Via.refl e0 F_value_a1 (g := (mkF m 1 #[.val (.ref a1)] [(.ref a1)])) rfl rfl (hb hby d24_1)
  refine own_st st71 ?_
  show OGo p e below s _ _ (T71.setTop (mkF m 4 #[.val (.ref a1)] [(.ref k)]))
  refine own_st (fun t k => XS.ifnullNo X71.here hx rfl (hb hby d24_4) rfl k) ?_
  show OGo p e below s _ _ (T71.setTop (mkF m 7 #[.val (.ref a1)] []))
  refine own_st (fun t k => XS.iconst X71.here hx rfl (hb hby d24_7) k) ?_
  show OGo p e below s _ _ (T71.setTop (mkF m 8 #[.val (.ref a1)] [(.int (1 : Int32))]))
  refine own_st (fun t k => XS.goto X71.here hx rfl (pc0 := 8) (pc' := 12) rfl (hb hby d24_8) (by decide) (by decide) k) ?_
  show OGo p e below s _ _ (T71.setTop (mkF m 12 #[.val (.ref a1)] [(.int (1 : Int32))]))
  exact own_retN X71 hx hlk (t := .boolean) hret (by simp) (hb hby d24_12) (by decide) (by decide) (⟨rfl, rfl, e71⟩)
theorem d25_0 : decode jdk_32_method_5_code 0 = .ok (.aload_n 0, 1) := by decide +kernel
theorem d25_1 : decode jdk_32_method_5_code 1 = .ok (.getfield 13, 3) := by decide +kernel
theorem d25_4 : decode jdk_32_method_5_code 4 = .ok (.ifnonnull 13, 3) := by decide +kernel
theorem d25_17 : decode jdk_32_method_5_code 17 = .ok (.aload_n 0, 1) := by decide +kernel
theorem d25_18 : decode jdk_32_method_5_code 18 = .ok (.getfield 13, 3) := by decide +kernel
theorem d25_21 : decode jdk_32_method_5_code 21 = .ok (.areturn, 1) := by decide +kernel
theorem ef_25_R (m : MethodId) (x0 : Addr) : entryFrame m #[(.ref x0)] 1 = mkF m 0 #[.val (.ref x0)] [] := by first | (simp [entryFrame, mkF, argsToLocals, Value.category]; done) | rfl
set_option maxRecDepth 65536 in
set_option maxHeartbeats 40000000 in
theorem rge (l : Launch) (Z : State) (a0 : Array Value) (hw : ∀ d ∈ tables_1, d.before a0 Z = true) (a1 : Addr) (k : Addr) (h0 : Heap) (F_value_a1 : Fld Z h0 a1 "java/util/Optional" "value" "Ljava/lang/Object;" (.ref k)) :
    OPure l Z (⟨"java/util/Optional", "get", "()Ljava/lang/Object;"⟩ : MethodName) jdk_32_method_5_code 1 (some (.object "java/lang/Object")) [] ({ frames := 0, cells := 0, slots := 0, locals := 0 } : Room) #[(.ref a1)] h0 (some (.ref k)) := by
  refine own_body (plainFor_of_name pn_java_util_Optional) (fun m => ef_25_R m a1) ?_
  intro p e s m below meth c T0 hx hby hml hown hnm hret hlk hZ X0 e0
  have hown : s.vm.findClass "java/util/Optional" = some m.cls := hown
  have hml : c.maxLocals = 1 := hml
  show OGo p e below s _ _ (T0.setTop (mkF m 0 #[.val (.ref a1)] []))
  refine own_st (fun t k => XS.aloadN X0.here hx rfl (hb hby d25_0) rfl rfl k) ?_
  show OGo p e below s _ _ (T0.setTop (mkF m 1 #[.val (.ref a1)] [(.ref a1)]))
  obtain ⟨T72, X72, e72, st72⟩ := getF X0 hx hZ hown (host := "") (Or.inl (hw _ (List.mem_of_getElem? (i := 137) rfl))) Via.refl e0 F_value_a1 (g := (mkF m 1 #[.val (.ref a1)] [(.ref a1)])) rfl rfl (hb hby d25_1)
  refine own_st st72 ?_
  show OGo p e below s _ _ (T72.setTop (mkF m 4 #[.val (.ref a1)] [(.ref k)]))
  refine own_st (fun t k => XS.ifnonnullYes X72.here hx rfl (pc0 := 4) (pc' := 17) rfl (hb hby d25_4) rfl (by decide) (by decide) k) ?_
  show OGo p e below s _ _ (T72.setTop (mkF m 17 #[.val (.ref a1)] []))
  refine own_st (fun t k => XS.aloadN X72.here hx rfl (hb hby d25_17) rfl rfl k) ?_
  show OGo p e below s _ _ (T72.setTop (mkF m 18 #[.val (.ref a1)] [(.ref a1)]))
  obtain ⟨T73, X73, e73, st73⟩ := getF X72 hx hZ hown (host := "") (Or.inl (hw _ (List.mem_of_getElem? (i := 137) rfl))) Via.refl e72 F_value_a1 (g := (mkF m 18 #[.val (.ref a1)] [(.ref a1)])) rfl rfl (hb hby d25_18)
  refine own_st st73 ?_
  show OGo p e below s _ _ (T73.setTop (mkF m 21 #[.val (.ref a1)] [(.ref k)]))
  exact own_retA X73 hx hlk hret rfl rfl (hb hby d25_21) (by decide) (by decide) (⟨rfl, rfl, e73⟩)
theorem ef_0_IIIII (m : MethodId) (x0 : Int32) (x1 : Int32) (x2 : Int32) (x3 : Int32) (x4 : Int32) : entryFrame m #[(.int x0), (.int x1), (.int x2), (.int x3), (.int x4)] maxLocals = mkF m 0 #[.val (.int x0), .val (.int x1), .val (.int x2), .val (.int x3), .val (.int x4), .unset, .unset, .unset, .unset, .unset, .unset] [] := by first | (simp [entryFrame, mkF, argsToLocals, Value.category, maxLocals]; done) | rfl
theorem pd_13 : parseMethodDescriptor "(I)Lcom/example/plain_keys/plainkeys/key/Refusal;" = some ⟨[.int], some (.object "com/example/plain_keys/plainkeys/key/Refusal")⟩ := by decide +kernel
theorem pd_14 : parseMethodDescriptor "(Lcom/example/plain_keys/plainkeys/key/Refusal;Lcom/example/plain_keys/plainkeys/key/KeyName;)Lcom/example/plain_keys/plainkeys/key/Verdict;" = some ⟨[(.object "com/example/plain_keys/plainkeys/key/Refusal"), (.object "com/example/plain_keys/plainkeys/key/KeyName")], some (.object "com/example/plain_keys/plainkeys/key/Verdict")⟩ := by decide +kernel
theorem pd_15 : parseMethodDescriptor "()Lcom/example/plain_keys/plainkeys/key/Refusal;" = some ⟨[], some (.object "com/example/plain_keys/plainkeys/key/Refusal")⟩ := by decide +kernel
theorem pd_16 : parseMethodDescriptor "()Ljava/util/Optional;" = some ⟨[], some (.object "java/util/Optional")⟩ := by decide +kernel
theorem pd_17 : parseMethodDescriptor "([C)V" = some ⟨[(.array .char)], none⟩ := by decide +kernel
theorem pd_18 : parseMethodDescriptor "(C)Ljava/lang/String;" = some ⟨[.char], some (.object "java/lang/String")⟩ := by decide +kernel
theorem pd_19 : parseMethodDescriptor "(Ljava/lang/String;Ljava/lang/String;Ljava/lang/String;)V" = some ⟨[(.object "java/lang/String"), (.object "java/lang/String"), (.object "java/lang/String")], none⟩ := by decide +kernel
theorem pd_20 : parseMethodDescriptor "()Ljava/lang/Object;" = some ⟨[], some (.object "java/lang/Object")⟩ := by decide +kernel
set_option maxRecDepth 65536 in
set_option maxHeartbeats 40000000 in
theorem rm0 (l : Launch) (Z : State) (a0 : Array Value) (hw : ∀ d ∈ tables_1, d.before a0 Z = true) (ws : List Jvm.Cond) (q1 : Int32) (q2 : Int32) (q3 : Int32) (q4 : Int32) (q5 : Int32) (b0 : Addr) (b1 : Addr) (b2 : Addr) (b3 : Addr) (b4 : Addr) (b5 : Addr) (b6 : Addr) (cs : Int32) (ol oe : Addr) (h0 : Heap) (n0 : Nat) (Z0 : n0 ≤ h0.size) (S_NO_SUCH_KEY : Sta Z h0 "com/example/plain_keys/plainkeys/key/Refusal" "NO_SUCH_KEY" "Lcom/example/plain_keys/plainkeys/key/Refusal;" (.ref b0)) (S_USED_UP : Sta Z h0 "com/example/plain_keys/plainkeys/key/Refusal" "USED_UP" "Lcom/example/plain_keys/plainkeys/key/Refusal;" (.ref b1)) (S_NOT_YET : Sta Z h0 "com/example/plain_keys/plainkeys/key/Refusal" "NOT_YET" "Lcom/example/plain_keys/plainkeys/key/Refusal;" (.ref b2)) (S_EXPIRED : Sta Z h0 "com/example/plain_keys/plainkeys/key/Refusal" "EXPIRED" "Lcom/example/plain_keys/plainkeys/key/Refusal;" (.ref b3)) (S_REVOKED : Sta Z h0 "com/example/plain_keys/plainkeys/key/Refusal" "REVOKED" "Lcom/example/plain_keys/plainkeys/key/Refusal;" (.ref b4)) (S_OUTSIDE : Sta Z h0 "com/example/plain_keys/plainkeys/key/Refusal" "OUTSIDE" "Lcom/example/plain_keys/plainkeys/key/Refusal;" (.ref b5)) (S_UNCHECKABLE : Sta Z h0 "com/example/plain_keys/plainkeys/key/Refusal" "UNCHECKABLE" "Lcom/example/plain_keys/plainkeys/key/Refusal;" (.ref b6)) (S_COMPACT_STRINGS : Sta Z h0 "java/lang/String" "COMPACT_STRINGS" "Z" (.int cs)) (S_EMPTY_java_util_OptionalLong : Sta Z h0 "java/util/OptionalLong" "EMPTY" "Ljava/util/OptionalLong;" (.ref ol)) (S_EMPTY_java_util_Optional : Sta Z h0 "java/util/Optional" "EMPTY" "Ljava/util/Optional;" (.ref oe)) (E_ol : Exa Z h0 ol "java/util/OptionalLong") (F_isPresent_ol : Fld Z h0 ol "java/util/OptionalLong" "isPresent" "Z" (.int (0 : Int32))) (E_oe : Exa Z h0 oe "java/util/Optional") (F_value_oe : Fld Z h0 oe "java/util/Optional" "value" "Ljava/lang/Object;" .null) (hcs : ¬ cs = (0 : Int32)) :
    OMet l Z x code maxLocals ret ws room_1 #[(.int q1), (.int q2), (.int q3), (.int q4), (.int q5)] h0 (OLawQ n0) := by
  refine own_body (plainFor_of_name pn_com_example_plain_keys_plainkeys_key_VerdictRefusedPinLaw) (fun m => ef_0_IIIII m q1 q2 q3 q4 q5) ?_
  intro p e s m below meth c T0 hx hby hml hown hnm hret hlk hZ X0 e0
  have hown : s.vm.findClass "com/example/plain_keys/plainkeys/key/VerdictRefusedPinLaw" = some m.cls := hown
  have hml : c.maxLocals = 11 := hml
  show OGo p e below s _ _ (T0.setTop (mkF m 0 #[.val (.int q1), .val (.int q2), .val (.int q3), .val (.int q4), .val (.int q5), .unset, .unset, .unset, .unset, .unset, .unset] []))
  have N0 := Fr.nil n0
  refine own_st (fun t k => XS.iloadN X0.here hx rfl (hb hby at_0) rfl k) ?_
  show OGo p e below s room_1 (OLawQ n0) (T0.setTop (mkF m 1 #[.val (.int q1), .val (.int q2), .val (.int q3), .val (.int q4), .val (.int q5), .unset, .unset, .unset, .unset, .unset, .unset] [(.int q1)]))
  obtain ⟨rf, hrf⟩ : ∃ z, z = own_pick ((q1 &&& (2147483647 : Int32)) % (7 : Int32)) b0 b1 b2 b3 b4 b5 b6 := ⟨_, rfl⟩
  obtain ⟨T74, X74, e74, st74⟩ := own_callSP X0 hx hZ (y := (⟨"com/example/plain_keys/plainkeys/key/VerdictRefusedPinLaw", "pick", "(I)Lcom/example/plain_keys/plainkeys/key/Refusal;"⟩ : MethodName)) (W := 0) hown (hw _ (List.mem_of_getElem? (i := 0) rfl)) (hw _ (List.mem_of_getElem? (i := 1) rfl)) (hw _ (List.mem_of_getElem? (i := 2) rfl)) (hw _ (List.mem_of_getElem? (i := 3) rfl)) (by decide) (rp l Z a0 hw q1 b0 b1 b2 b3 b4 b5 b6 rf h0 S_NO_SUCH_KEY S_USED_UP S_NOT_YET S_EXPIRED S_REVOKED S_OUTSIDE S_UNCHECKABLE hrf.symm) (by decide) (by decide) (g := (mkF m 1 #[.val (.int q1), .val (.int q2), .val (.int q3), .val (.int q4), .val (.int q5), .unset, .unset, .unset, .unset, .unset, .unset] [(.int q1)])) rfl (by rw [hml]; rfl) (argsL := [(.int q1)]) (rest := []) (lenOf pd_13 rfl) rfl (by show 2 * 0 + _ ≤ _; exact Nat.le_of_eq rfl) (hb hby at_1) rfl e0 (by decide) (by decide)
  refine own_st st74 ?_
  show OGo p e below s room_1 (OLawQ n0) (T74.setTop (mkF m 4 #[.val (.int q1), .val (.int q2), .val (.int q3), .val (.int q4), .val (.int q5), .unset, .unset, .unset, .unset, .unset, .unset] [(.ref rf)]))
  refine own_st (fun t k => XS.astore X74.here hx rfl (hb hby at_4) rfl rfl (l' := #[.val (.int q1), .val (.int q2), .val (.int q3), .val (.int q4), .val (.int q5), .val (.ref rf), .unset, .unset, .unset, .unset, .unset]) rfl k) ?_
  show OGo p e below s room_1 (OLawQ n0) (T74.setTop (mkF m 6 #[.val (.int q1), .val (.int q2), .val (.int q3), .val (.int q4), .val (.int q5), .val (.ref rf), .unset, .unset, .unset, .unset, .unset] []))
  refine own_st (fun t k => XS.aconstNull X74.here hx rfl (hb hby at_6) k) ?_
  show OGo p e below s room_1 (OLawQ n0) (T74.setTop (mkF m 7 #[.val (.int q1), .val (.int q2), .val (.int q3), .val (.int q4), .val (.int q5), .val (.ref rf), .unset, .unset, .unset, .unset, .unset] [.null]))
  refine own_st (fun t k => XS.astore X74.here hx rfl (hb hby at_7) rfl rfl (l' := #[.val (.int q1), .val (.int q2), .val (.int q3), .val (.int q4), .val (.int q5), .val (.ref rf), .val .null, .unset, .unset, .unset, .unset]) rfl k) ?_
  show OGo p e below s room_1 (OLawQ n0) (T74.setTop (mkF m 9 #[.val (.int q1), .val (.int q2), .val (.int q3), .val (.int q4), .val (.int q5), .val (.ref rf), .val .null, .unset, .unset, .unset, .unset] []))
  refine own_st (fun t k => XS.iloadN X74.here hx rfl (hb hby at_9) rfl k) ?_
  show OGo p e below s room_1 (OLawQ n0) (T74.setTop (mkF m 10 #[.val (.int q1), .val (.int q2), .val (.int q3), .val (.int q4), .val (.int q5), .val (.ref rf), .val .null, .unset, .unset, .unset, .unset] [(.int q2)]))
  refine own_st (fun t k => XS.iconst X74.here hx rfl (hb hby at_10) k) ?_
  show OGo p e below s room_1 (OLawQ n0) (T74.setTop (mkF m 11 #[.val (.int q1), .val (.int q2), .val (.int q3), .val (.int q4), .val (.int q5), .val (.ref rf), .val .null, .unset, .unset, .unset, .unset] [(.int (1 : Int32)), (.int q2)]))
  refine own_st (fun t k => XS.iand X74.here hx rfl (hb hby at_11) rfl k) ?_
  show OGo p e below s room_1 (OLawQ n0) (T74.setTop (mkF m 12 #[.val (.int q1), .val (.int q2), .val (.int q3), .val (.int q4), .val (.int q5), .val (.ref rf), .val .null, .unset, .unset, .unset, .unset] [(.int (q2 &&& (1 : Int32)))]))
  by_cases hc12 : (q2 &&& (1 : Int32)) = (0 : Int32)
  · refine own_st (fun t k => XS.ifYes X74.here hx rfl (pc0 := 12) (pc' := 93) rfl (hb hby at_12) rfl ((if0 _ _).trans (teq (hc12)).1) (by decide) (by decide) k) ?_
    show OGo p e below s room_1 (OLawQ n0) (T74.setTop (mkF m 93 #[.val (.int q1), .val (.int q2), .val (.int q3), .val (.int q4), .val (.int q5), .val (.ref rf), .val .null, .unset, .unset, .unset, .unset] []))
    refine own_st (fun t k => XS.aload X74.here hx rfl (hb hby at_93) rfl rfl k) ?_
    show OGo p e below s room_1 (OLawQ n0) (T74.setTop (mkF m 95 #[.val (.int q1), .val (.int q2), .val (.int q3), .val (.int q4), .val (.int q5), .val (.ref rf), .val .null, .unset, .unset, .unset, .unset] [(.ref rf)]))
    refine own_st (fun t k => XS.aload X74.here hx rfl (hb hby at_95) rfl rfl k) ?_
    show OGo p e below s room_1 (OLawQ n0) (T74.setTop (mkF m 97 #[.val (.int q1), .val (.int q2), .val (.int q3), .val (.int q4), .val (.int q5), .val (.ref rf), .val .null, .unset, .unset, .unset, .unset] [.null, (.ref rf)]))
    obtain ⟨_, T75, Lc75, X75, hQ75, st75⟩ := own_callS X74 hx hZ (y := (⟨"com/example/plain_keys/plainkeys/key/Verdict", "refused", "(Lcom/example/plain_keys/plainkeys/key/Refusal;Lcom/example/plain_keys/plainkeys/key/KeyName;)Lcom/example/plain_keys/plainkeys/key/Verdict;"⟩ : MethodName)) (W := 0) hown (hw _ (List.mem_of_getElem? (i := 70) rfl)) (hw _ (List.mem_of_getElem? (i := 71) rfl)) (hw _ (List.mem_of_getElem? (i := 72) rfl)) (hw _ (List.mem_of_getElem? (i := 73) rfl)) (by decide) (rf0 l Z a0 hw rf h0 n0 Z0) (by decide) (by decide) (g := (mkF m 97 #[.val (.int q1), .val (.int q2), .val (.int q3), .val (.int q4), .val (.int q5), .val (.ref rf), .val .null, .unset, .unset, .unset, .unset] [.null, (.ref rf)])) rfl (by rw [hml]; rfl) (argsL := [(.ref rf), .null]) (rest := []) (lenOf pd_14 rfl) rfl (by show 2 * 0 + _ ≤ _; exact Nat.le_of_eq rfl) (hb hby at_97) rfl e74 (by decide) (by decide)
    obtain ⟨v1, rfl, Nq75, Kq75, fq75_v1, q75_0, q75_1, q75_2, q75_3⟩ := hQ75
    have ne_ol_v1 : ol ≠ v1 := Nat.ne_of_lt (Nat.lt_of_lt_of_le E_ol.lt fq75_v1)
    have ne_oe_v1 : oe ≠ v1 := Nat.ne_of_lt (Nat.lt_of_lt_of_le E_oe.lt fq75_v1)
    have old_v1 : n0 ≤ v1 := Nat.le_trans Z0 fq75_v1
    have hpl_Kq75 : ∀ w ∈ ([] : List Addr), ∃ c : Cell, h0[w]? = some c ∧ c.vm.isStatics = false := all0
    have Z0 := Nat.le_trans Z0 Kq75.1
    have S_COMPACT_STRINGS := own_sta_keep S_COMPACT_STRINGS Kq75 hpl_Kq75
    have S_EMPTY_java_util_OptionalLong := own_sta_keep S_EMPTY_java_util_OptionalLong Kq75 hpl_Kq75
    have S_EMPTY_java_util_Optional := own_sta_keep S_EMPTY_java_util_Optional Kq75 hpl_Kq75
    have E_ol := E_ol.keep Kq75
    have F_isPresent_ol := F_isPresent_ol.keep Kq75 nin0
    have E_oe := E_oe.keep Kq75
    have F_value_oe := F_value_oe.keep Kq75 nin0
    have Nr75 := Fr.app N0 Nq75
    have E_v1 := q75_0
    have F_name_v1 := q75_1
    have F_refusal_v1 := q75_2
    have F_entry_v1 := q75_3
    refine own_st st75 ?_
    show OGo p e below s room_1 (OLawQ n0) (T75.setTop (mkF m 100 #[.val (.int q1), .val (.int q2), .val (.int q3), .val (.int q4), .val (.int q5), .val (.ref rf), .val .null, .unset, .unset, .unset, .unset] [(.ref v1)]))
    refine own_st (fun t k => XS.astore X75.here hx rfl (hb hby at_100) rfl rfl (l' := #[.val (.int q1), .val (.int q2), .val (.int q3), .val (.int q4), .val (.int q5), .val (.ref rf), .val .null, .val (.ref v1), .unset, .unset, .unset]) rfl k) ?_
    show OGo p e below s room_1 (OLawQ n0) (T75.setTop (mkF m 102 #[.val (.int q1), .val (.int q2), .val (.int q3), .val (.int q4), .val (.int q5), .val (.ref rf), .val .null, .val (.ref v1), .unset, .unset, .unset] []))
    refine own_st (fun t k => XS.aload X75.here hx rfl (hb hby at_102) rfl rfl k) ?_
    show OGo p e below s room_1 (OLawQ n0) (T75.setTop (mkF m 104 #[.val (.int q1), .val (.int q2), .val (.int q3), .val (.int q4), .val (.int q5), .val (.ref rf), .val .null, .val (.ref v1), .unset, .unset, .unset] [(.ref v1)]))
    obtain ⟨T76, X76, e76, st76⟩ := own_callVP X75 hx hZ (y := (⟨"com/example/plain_keys/plainkeys/key/Verdict", "opens", "()Z"⟩ : MethodName)) (z := (⟨"com/example/plain_keys/plainkeys/key/Verdict", "opens", "()Z"⟩ : MethodName)) (W := 0) hown (hw _ (List.mem_of_getElem? (i := 93) rfl)) (hw _ (List.mem_of_getElem? (i := 94) rfl)) (notFace_of_selects (args := #[]) (mvT hZ (hw _ (List.mem_of_getElem? (i := 96) rfl)))) (hw _ (List.mem_of_getElem? (i := 96) rfl)) (hw _ (List.mem_of_getElem? (i := 95) rfl)) (hw _ (List.mem_of_getElem? (i := 97) rfl)) (hw _ (List.mem_of_getElem? (i := 72) rfl)) (by decide) (ro l Z a0 hw v1 rf T75.heap F_refusal_v1) (by decide) (by decide) E_v1 (g := (mkF m 104 #[.val (.int q1), .val (.int q2), .val (.int q3), .val (.int q4), .val (.int q5), .val (.ref rf), .val .null, .val (.ref v1), .unset, .unset, .unset] [(.ref v1)])) rfl (by rw [hml]; rfl) (argsL := []) (rest := []) (lenOf pd_9 rfl) rfl (by show 2 * 0 + _ ≤ _; exact Nat.le_of_eq rfl) (hb hby at_104) rfl rfl (by decide) (by decide)
    refine own_st st76 ?_
    show OGo p e below s room_1 (OLawQ n0) (T76.setTop (mkF m 107 #[.val (.int q1), .val (.int q2), .val (.int q3), .val (.int q4), .val (.int q5), .val (.ref rf), .val .null, .val (.ref v1), .unset, .unset, .unset] [(.int (0 : Int32))]))
    refine own_st (fun t k => XS.ifYes X76.here hx rfl (pc0 := 107) (pc' := 112) rfl (hb hby at_107) rfl ((if0 _ _).trans (teq ((by decide : (0 : Int32) = (0 : Int32)))).1) (by decide) (by decide) k) ?_
    show OGo p e below s room_1 (OLawQ n0) (T76.setTop (mkF m 112 #[.val (.int q1), .val (.int q2), .val (.int q3), .val (.int q4), .val (.int q5), .val (.ref rf), .val .null, .val (.ref v1), .unset, .unset, .unset] []))
    refine own_st (fun t k => XS.aload X76.here hx rfl (hb hby at_112) rfl rfl k) ?_
    show OGo p e below s room_1 (OLawQ n0) (T76.setTop (mkF m 114 #[.val (.int q1), .val (.int q2), .val (.int q3), .val (.int q4), .val (.int q5), .val (.ref rf), .val .null, .val (.ref v1), .unset, .unset, .unset] [(.ref v1)]))
    obtain ⟨T77, X77, e77, st77⟩ := own_callVP X76 hx hZ (y := (⟨"com/example/plain_keys/plainkeys/key/Verdict", "refusal", "()Lcom/example/plain_keys/plainkeys/key/Refusal;"⟩ : MethodName)) (z := (⟨"com/example/plain_keys/plainkeys/key/Verdict", "refusal", "()Lcom/example/plain_keys/plainkeys/key/Refusal;"⟩ : MethodName)) (W := 0) hown (hw _ (List.mem_of_getElem? (i := 98) rfl)) (hw _ (List.mem_of_getElem? (i := 99) rfl)) (notFace_of_selects (args := #[]) (mvT hZ (hw _ (List.mem_of_getElem? (i := 101) rfl)))) (hw _ (List.mem_of_getElem? (i := 101) rfl)) (hw _ (List.mem_of_getElem? (i := 100) rfl)) (hw _ (List.mem_of_getElem? (i := 102) rfl)) (hw _ (List.mem_of_getElem? (i := 72) rfl)) (by decide) (rg l Z a0 hw v1 rf T75.heap E_v1 F_refusal_v1) (by decide) (by decide) E_v1 (g := (mkF m 114 #[.val (.int q1), .val (.int q2), .val (.int q3), .val (.int q4), .val (.int q5), .val (.ref rf), .val .null, .val (.ref v1), .unset, .unset, .unset] [(.ref v1)])) rfl (by rw [hml]; rfl) (argsL := []) (rest := []) (lenOf pd_15 rfl) rfl (by show 2 * 0 + _ ≤ _; exact Nat.le_of_eq rfl) (hb hby at_114) rfl e76 (by decide) (by decide)
    refine own_st st77 ?_
    show OGo p e below s room_1 (OLawQ n0) (T77.setTop (mkF m 117 #[.val (.int q1), .val (.int q2), .val (.int q3), .val (.int q4), .val (.int q5), .val (.ref rf), .val .null, .val (.ref v1), .unset, .unset, .unset] [(.ref rf)]))
    refine own_st (fun t k => XS.aload X77.here hx rfl (hb hby at_117) rfl rfl k) ?_
    show OGo p e below s room_1 (OLawQ n0) (T77.setTop (mkF m 119 #[.val (.int q1), .val (.int q2), .val (.int q3), .val (.int q4), .val (.int q5), .val (.ref rf), .val .null, .val (.ref v1), .unset, .unset, .unset] [(.ref rf), (.ref rf)]))
    refine own_st (fun t k => Jvm.RoadKit.acmp (g := (mkF m 119 #[.val (.int q1), .val (.int q2), .val (.int q3), .val (.int q4), .val (.int q5), .val (.ref rf), .val .null, .val (.ref v1), .unset, .unset, .unset] [(.ref rf), (.ref rf)])) X77 hx rfl rfl rfl (pc0 := 119) (pc' := 124) (same := true) rfl (hb hby at_119) rfl (decide_eq_true rfl) (by decide) (by decide) k) ?_
    show OGo p e below s room_1 (OLawQ n0) (T77.setTop (mkF m 124 #[.val (.int q1), .val (.int q2), .val (.int q3), .val (.int q4), .val (.int q5), .val (.ref rf), .val .null, .val (.ref v1), .unset, .unset, .unset] []))
    refine own_st (fun t k => XS.aload X77.here hx rfl (hb hby at_124) rfl rfl k) ?_
    show OGo p e below s room_1 (OLawQ n0) (T77.setTop (mkF m 126 #[.val (.int q1), .val (.int q2), .val (.int q3), .val (.int q4), .val (.int q5), .val (.ref rf), .val .null, .val (.ref v1), .unset, .unset, .unset] [(.ref v1)]))
    obtain ⟨T78, X78, e78, st78⟩ := own_callVP X77 hx hZ (y := (⟨"com/example/plain_keys/plainkeys/key/Verdict", "entry", "()Ljava/util/OptionalLong;"⟩ : MethodName)) (z := (⟨"com/example/plain_keys/plainkeys/key/Verdict", "entry", "()Ljava/util/OptionalLong;"⟩ : MethodName)) (W := 0) hown (hw _ (List.mem_of_getElem? (i := 104) rfl)) (hw _ (List.mem_of_getElem? (i := 105) rfl)) (notFace_of_selects (args := #[]) (mvT hZ (hw _ (List.mem_of_getElem? (i := 107) rfl)))) (hw _ (List.mem_of_getElem? (i := 107) rfl)) (hw _ (List.mem_of_getElem? (i := 106) rfl)) (hw _ (List.mem_of_getElem? (i := 108) rfl)) (hw _ (List.mem_of_getElem? (i := 72) rfl)) (by decide) (rh l Z a0 hw v1 ol T75.heap F_entry_v1 S_EMPTY_java_util_OptionalLong) (by decide) (by decide) E_v1 (g := (mkF m 126 #[.val (.int q1), .val (.int q2), .val (.int q3), .val (.int q4), .val (.int q5), .val (.ref rf), .val .null, .val (.ref v1), .unset, .unset, .unset] [(.ref v1)])) rfl (by rw [hml]; rfl) (argsL := []) (rest := []) (lenOf pd_10 rfl) rfl (by show 2 * 0 + _ ≤ _; exact Nat.le_of_eq rfl) (hb hby at_126) rfl e77 (by decide) (by decide)
    refine own_st st78 ?_
    show OGo p e below s room_1 (OLawQ n0) (T78.setTop (mkF m 129 #[.val (.int q1), .val (.int q2), .val (.int q3), .val (.int q4), .val (.int q5), .val (.ref rf), .val .null, .val (.ref v1), .unset, .unset, .unset] [(.ref ol)]))
    obtain ⟨T79, X79, e79, st79⟩ := own_callVP X78 hx hZ (y := (⟨"java/util/OptionalLong", "isPresent", "()Z"⟩ : MethodName)) (z := (⟨"java/util/OptionalLong", "isPresent", "()Z"⟩ : MethodName)) (W := 0) hown (hw _ (List.mem_of_getElem? (i := 114) rfl)) (hw _ (List.mem_of_getElem? (i := 115) rfl)) (notFace_of_selects (args := #[]) (mvT hZ (hw _ (List.mem_of_getElem? (i := 117) rfl)))) (hw _ (List.mem_of_getElem? (i := 117) rfl)) (hw _ (List.mem_of_getElem? (i := 116) rfl)) (hw _ (List.mem_of_getElem? (i := 118) rfl)) (hw _ (List.mem_of_getElem? (i := 111) rfl)) (by decide) (ri l Z a0 hw ol T75.heap F_isPresent_ol) (by decide) (by decide) E_ol (g := (mkF m 129 #[.val (.int q1), .val (.int q2), .val (.int q3), .val (.int q4), .val (.int q5), .val (.ref rf), .val .null, .val (.ref v1), .unset, .unset, .unset] [(.ref ol)])) rfl (by rw [hml]; rfl) (argsL := []) (rest := []) (lenOf pd_9 rfl) rfl (by show 2 * 0 + _ ≤ _; exact Nat.le_of_eq rfl) (hb hby at_129) rfl e78 (by decide) (by decide)
    refine own_st st79 ?_
    show OGo p e below s room_1 (OLawQ n0) (T79.setTop (mkF m 132 #[.val (.int q1), .val (.int q2), .val (.int q3), .val (.int q4), .val (.int q5), .val (.ref rf), .val .null, .val (.ref v1), .unset, .unset, .unset] [(.int (0 : Int32))]))
    refine own_st (fun t k => XS.ifYes X79.here hx rfl (pc0 := 132) (pc' := 137) rfl (hb hby at_132) rfl ((if0 _ _).trans (teq ((by decide : (0 : Int32) = (0 : Int32)))).1) (by decide) (by decide) k) ?_
    show OGo p e below s room_1 (OLawQ n0) (T79.setTop (mkF m 137 #[.val (.int q1), .val (.int q2), .val (.int q3), .val (.int q4), .val (.int q5), .val (.ref rf), .val .null, .val (.ref v1), .unset, .unset, .unset] []))
    refine own_st (fun t k => XS.aload X79.here hx rfl (hb hby at_137) rfl rfl k) ?_
    show OGo p e below s room_1 (OLawQ n0) (T79.setTop (mkF m 139 #[.val (.int q1), .val (.int q2), .val (.int q3), .val (.int q4), .val (.int q5), .val (.ref rf), .val .null, .val (.ref v1), .unset, .unset, .unset] [(.ref v1)]))
    obtain ⟨T80, X80, e80, st80⟩ := own_callVP X79 hx hZ (y := (⟨"com/example/plain_keys/plainkeys/key/Verdict", "keyName", "()Ljava/util/Optional;"⟩ : MethodName)) (z := (⟨"com/example/plain_keys/plainkeys/key/Verdict", "keyName", "()Ljava/util/Optional;"⟩ : MethodName)) (W := 0) hown (hw _ (List.mem_of_getElem? (i := 121) rfl)) (hw _ (List.mem_of_getElem? (i := 122) rfl)) (notFace_of_selects (args := #[]) (mvT hZ (hw _ (List.mem_of_getElem? (i := 124) rfl)))) (hw _ (List.mem_of_getElem? (i := 124) rfl)) (hw _ (List.mem_of_getElem? (i := 123) rfl)) (hw _ (List.mem_of_getElem? (i := 125) rfl)) (hw _ (List.mem_of_getElem? (i := 72) rfl)) (by decide) (rkn0 l Z a0 hw v1 oe T75.heap F_name_v1 S_EMPTY_java_util_Optional) (by decide) (by decide) E_v1 (g := (mkF m 139 #[.val (.int q1), .val (.int q2), .val (.int q3), .val (.int q4), .val (.int q5), .val (.ref rf), .val .null, .val (.ref v1), .unset, .unset, .unset] [(.ref v1)])) rfl (by rw [hml]; rfl) (argsL := []) (rest := []) (lenOf pd_16 rfl) rfl (by show 2 * 0 + _ ≤ _; exact Nat.le_of_eq rfl) (hb hby at_139) rfl e79 (by decide) (by decide)
    refine own_st st80 ?_
    show OGo p e below s room_1 (OLawQ n0) (T80.setTop (mkF m 142 #[.val (.int q1), .val (.int q2), .val (.int q3), .val (.int q4), .val (.int q5), .val (.ref rf), .val .null, .val (.ref v1), .unset, .unset, .unset] [(.ref oe)]))
    refine own_st (fun t k => XS.astore X80.here hx rfl (hb hby at_142) rfl rfl (l' := #[.val (.int q1), .val (.int q2), .val (.int q3), .val (.int q4), .val (.int q5), .val (.ref rf), .val .null, .val (.ref v1), .val (.ref oe), .unset, .unset]) rfl k) ?_
    show OGo p e below s room_1 (OLawQ n0) (T80.setTop (mkF m 144 #[.val (.int q1), .val (.int q2), .val (.int q3), .val (.int q4), .val (.int q5), .val (.ref rf), .val .null, .val (.ref v1), .val (.ref oe), .unset, .unset] []))
    refine own_st (fun t k => XS.aload X80.here hx rfl (hb hby at_144) rfl rfl k) ?_
    show OGo p e below s room_1 (OLawQ n0) (T80.setTop (mkF m 146 #[.val (.int q1), .val (.int q2), .val (.int q3), .val (.int q4), .val (.int q5), .val (.ref rf), .val .null, .val (.ref v1), .val (.ref oe), .unset, .unset] [.null]))
    refine own_st (fun t k => XS.ifnonnullNo X80.here hx rfl (hb hby at_146) rfl k) ?_
    show OGo p e below s room_1 (OLawQ n0) (T80.setTop (mkF m 149 #[.val (.int q1), .val (.int q2), .val (.int q3), .val (.int q4), .val (.int q5), .val (.ref rf), .val .null, .val (.ref v1), .val (.ref oe), .unset, .unset] []))
    refine own_st (fun t k => XS.aload X80.here hx rfl (hb hby at_149) rfl rfl k) ?_
    show OGo p e below s room_1 (OLawQ n0) (T80.setTop (mkF m 151 #[.val (.int q1), .val (.int q2), .val (.int q3), .val (.int q4), .val (.int q5), .val (.ref rf), .val .null, .val (.ref v1), .val (.ref oe), .unset, .unset] [(.ref oe)]))
    obtain ⟨T81, X81, e81, st81⟩ := own_callVP X80 hx hZ (y := (⟨"java/util/Optional", "isEmpty", "()Z"⟩ : MethodName)) (z := (⟨"java/util/Optional", "isEmpty", "()Z"⟩ : MethodName)) (W := 0) hown (hw _ (List.mem_of_getElem? (i := 152) rfl)) (hw _ (List.mem_of_getElem? (i := 153) rfl)) (notFace_of_selects (args := #[]) (mvT hZ (hw _ (List.mem_of_getElem? (i := 155) rfl)))) (hw _ (List.mem_of_getElem? (i := 155) rfl)) (hw _ (List.mem_of_getElem? (i := 154) rfl)) (hw _ (List.mem_of_getElem? (i := 156) rfl)) (hw _ (List.mem_of_getElem? (i := 128) rfl)) (by decide) (rse l Z a0 hw oe T75.heap F_value_oe) (by decide) (by decide) E_oe (g := (mkF m 151 #[.val (.int q1), .val (.int q2), .val (.int q3), .val (.int q4), .val (.int q5), .val (.ref rf), .val .null, .val (.ref v1), .val (.ref oe), .unset, .unset] [(.ref oe)])) rfl (by rw [hml]; rfl) (argsL := []) (rest := []) (lenOf pd_9 rfl) rfl (by show 2 * 0 + _ ≤ _; exact Nat.le_of_eq rfl) (hb hby at_151) rfl e80 (by decide) (by decide)
    refine own_st st81 ?_
    show OGo p e below s room_1 (OLawQ n0) (T81.setTop (mkF m 154 #[.val (.int q1), .val (.int q2), .val (.int q3), .val (.int q4), .val (.int q5), .val (.ref rf), .val .null, .val (.ref v1), .val (.ref oe), .unset, .unset] [(.int (1 : Int32))]))
    exact own_retN X81 hx hlk (t := .boolean) hret (by simp) (hb hby at_154) (by decide) (by decide) (⟨rfl, Nr75⟩)
  · refine own_st (fun t k => XS.ifNo X74.here hx rfl (hb hby at_12) rfl ((if0 _ _).trans (feq (hc12)).1) k) ?_
    show OGo p e below s room_1 (OLawQ n0) (T74.setTop (mkF m 15 #[.val (.int q1), .val (.int q2), .val (.int q3), .val (.int q4), .val (.int q5), .val (.ref rf), .val .null, .unset, .unset, .unset, .unset] []))
    refine own_st (fun t k => XS.iconst X74.here hx rfl (hb hby at_15) k) ?_
    show OGo p e below s room_1 (OLawQ n0) (T74.setTop (mkF m 16 #[.val (.int q1), .val (.int q2), .val (.int q3), .val (.int q4), .val (.int q5), .val (.ref rf), .val .null, .unset, .unset, .unset, .unset] [(.int (2 : Int32))]))
    obtain ⟨T82, hp82, kk82, X82, e82, Ex82, Aa82, st82⟩ := newP X74 hx hZ (hw _ (List.mem_of_getElem? (i := 8) rfl)) e74 (g := (mkF m 16 #[.val (.int q1), .val (.int q2), .val (.int q3), .val (.int q4), .val (.int q5), .val (.ref rf), .val .null, .unset, .unset, .unset, .unset] [(.int (2 : Int32))])) rfl (hb hby at_16) rfl (by decide) (cap := 2) (by decide) (by decide) (by decide) (by decide)
    obtain ⟨c1, gs82⟩ : ∃ z, z = h0.size := ⟨_, rfl⟩
    rw [← gs82] at Aa82 st82
    have ne_ol_c1 : ol ≠ c1 := Nat.ne_of_lt (Nat.lt_of_lt_of_le E_ol.lt (Nat.le_of_eq gs82.symm))
    have ne_oe_c1 : oe ≠ c1 := Nat.ne_of_lt (Nat.lt_of_lt_of_le E_oe.lt (Nat.le_of_eq gs82.symm))
    have old_c1 : n0 ≤ c1 := Nat.le_trans Z0 (Nat.le_of_eq gs82.symm)
    have Z0 := Nat.le_trans Z0 Ex82.1
    have S_COMPACT_STRINGS := S_COMPACT_STRINGS.ext Ex82
    have S_EMPTY_java_util_OptionalLong := S_EMPTY_java_util_OptionalLong.ext Ex82
    have S_EMPTY_java_util_Optional := S_EMPTY_java_util_Optional.ext Ex82
    have E_ol := E_ol.ext Ex82
    have F_isPresent_ol := F_isPresent_ol.ext Ex82
    have E_oe := E_oe.ext Ex82
    have F_value_oe := F_value_oe.ext Ex82
    have A_c1 := OAr.new Aa82
    refine own_st st82 ?_
    show OGo p e below s room_1 (OLawQ n0) (T82.setTop (mkF m 18 #[.val (.int q1), .val (.int q2), .val (.int q3), .val (.int q4), .val (.int q5), .val (.ref rf), .val .null, .unset, .unset, .unset, .unset] [(.ref c1)]))
    refine own_st (fun t k => XS.astore X82.here hx rfl (hb hby at_18) rfl rfl (l' := #[.val (.int q1), .val (.int q2), .val (.int q3), .val (.int q4), .val (.int q5), .val (.ref rf), .val .null, .val (.ref c1), .unset, .unset, .unset]) rfl k) ?_
    show OGo p e below s room_1 (OLawQ n0) (T82.setTop (mkF m 20 #[.val (.int q1), .val (.int q2), .val (.int q3), .val (.int q4), .val (.int q5), .val (.ref rf), .val .null, .val (.ref c1), .unset, .unset, .unset] []))
    refine own_st (fun t k => XS.aload X82.here hx rfl (hb hby at_20) rfl rfl k) ?_
    show OGo p e below s room_1 (OLawQ n0) (T82.setTop (mkF m 22 #[.val (.int q1), .val (.int q2), .val (.int q3), .val (.int q4), .val (.int q5), .val (.ref rf), .val .null, .val (.ref c1), .unset, .unset, .unset] [(.ref c1)]))
    refine own_st (fun t k => XS.iconst X82.here hx rfl (hb hby at_22) k) ?_
    show OGo p e below s room_1 (OLawQ n0) (T82.setTop (mkF m 23 #[.val (.int q1), .val (.int q2), .val (.int q3), .val (.int q4), .val (.int q5), .val (.ref rf), .val .null, .val (.ref c1), .unset, .unset, .unset] [(.int (0 : Int32)), (.ref c1)]))
    refine own_st (fun t k => XS.iloadN X82.here hx rfl (hb hby at_23) rfl k) ?_
    show OGo p e below s room_1 (OLawQ n0) (T82.setTop (mkF m 24 #[.val (.int q1), .val (.int q2), .val (.int q3), .val (.int q4), .val (.int q5), .val (.ref rf), .val .null, .val (.ref c1), .unset, .unset, .unset] [(.int q3), (.int (0 : Int32)), (.ref c1)]))
    refine own_st (fun t k => XS.sipush X82.here hx rfl (hb hby at_24) k) ?_
    show OGo p e below s room_1 (OLawQ n0) (T82.setTop (mkF m 27 #[.val (.int q1), .val (.int q2), .val (.int q3), .val (.int q4), .val (.int q5), .val (.ref rf), .val .null, .val (.ref c1), .unset, .unset, .unset] [(.int (255 : Int32)), (.int q3), (.int (0 : Int32)), (.ref c1)]))
    refine own_st (fun t k => XS.iand X82.here hx rfl (hb hby at_27) rfl k) ?_
    show OGo p e below s room_1 (OLawQ n0) (T82.setTop (mkF m 28 #[.val (.int q1), .val (.int q2), .val (.int q3), .val (.int q4), .val (.int q5), .val (.ref rf), .val .null, .val (.ref c1), .unset, .unset, .unset] [(.int (q3 &&& (255 : Int32))), (.int (0 : Int32)), (.ref c1)]))
    refine own_st (fun t k => XS.i2c X82.here hx rfl (hb hby at_28) rfl k) ?_
    show OGo p e below s room_1 (OLawQ n0) (T82.setTop (mkF m 29 #[.val (.int q1), .val (.int q2), .val (.int q3), .val (.int q4), .val (.int q5), .val (.ref rf), .val .null, .val (.ref c1), .unset, .unset, .unset] [(.int (q3 &&& (255 : Int32)).toUInt32.toUInt16.toUInt32.toInt32), (.int (0 : Int32)), (.ref c1)]))
    obtain ⟨cl83, Ar83, Sz83, Hh83⟩ := id A_c1
    obtain ⟨T83, hp83, X83, e83, Ww83, st83⟩ := stC X82 hx hZ e82 Ar83 (j := (0 : Int32)) (own_in Sz83 (by decide) (by decide)) (g := (mkF m 29 #[.val (.int q1), .val (.int q2), .val (.int q3), .val (.int q4), .val (.int q5), .val (.ref rf), .val .null, .val (.ref c1), .unset, .unset, .unset] [(.int (q3 &&& (255 : Int32)).toUInt32.toUInt16.toUInt32.toInt32), (.int (0 : Int32)), (.ref c1)])) rfl rfl (hb hby at_29)
    have Nf83 := Fr.snoc X83 N0 old_c1
    have Z0 := Nat.le_trans Z0 (Keep.of_wr Ww83).1
    have S_COMPACT_STRINGS := S_COMPACT_STRINGS.wr Ww83
    have S_EMPTY_java_util_OptionalLong := S_EMPTY_java_util_OptionalLong.wr Ww83
    have S_EMPTY_java_util_Optional := S_EMPTY_java_util_Optional.wr Ww83
    have E_ol := E_ol.wr Ww83
    have F_isPresent_ol := F_isPresent_ol.other Ww83 (Or.inl ne_ol_c1)
    have E_oe := E_oe.wr Ww83
    have F_value_oe := F_value_oe.other Ww83 (Or.inl ne_oe_c1)
    have A_c1 := OAr.set Ar83 Sz83 Hh83 Ww83
    refine own_st st83 ?_
    show OGo p e below s room_1 (OLawQ n0) (T83.setTop (mkF m 30 #[.val (.int q1), .val (.int q2), .val (.int q3), .val (.int q4), .val (.int q5), .val (.ref rf), .val .null, .val (.ref c1), .unset, .unset, .unset] []))
    refine own_st (fun t k => XS.aload X83.here hx rfl (hb hby at_30) rfl rfl k) ?_
    show OGo p e below s room_1 (OLawQ n0) (T83.setTop (mkF m 32 #[.val (.int q1), .val (.int q2), .val (.int q3), .val (.int q4), .val (.int q5), .val (.ref rf), .val .null, .val (.ref c1), .unset, .unset, .unset] [(.ref c1)]))
    refine own_st (fun t k => XS.iconst X83.here hx rfl (hb hby at_32) k) ?_
    show OGo p e below s room_1 (OLawQ n0) (T83.setTop (mkF m 33 #[.val (.int q1), .val (.int q2), .val (.int q3), .val (.int q4), .val (.int q5), .val (.ref rf), .val .null, .val (.ref c1), .unset, .unset, .unset] [(.int (1 : Int32)), (.ref c1)]))
    refine own_st (fun t k => XS.iloadN X83.here hx rfl (hb hby at_33) rfl k) ?_
    show OGo p e below s room_1 (OLawQ n0) (T83.setTop (mkF m 34 #[.val (.int q1), .val (.int q2), .val (.int q3), .val (.int q4), .val (.int q5), .val (.ref rf), .val .null, .val (.ref c1), .unset, .unset, .unset] [(.int q4), (.int (1 : Int32)), (.ref c1)]))
    refine own_st (fun t k => XS.sipush X83.here hx rfl (hb hby at_34) k) ?_
    show OGo p e below s room_1 (OLawQ n0) (T83.setTop (mkF m 37 #[.val (.int q1), .val (.int q2), .val (.int q3), .val (.int q4), .val (.int q5), .val (.ref rf), .val .null, .val (.ref c1), .unset, .unset, .unset] [(.int (255 : Int32)), (.int q4), (.int (1 : Int32)), (.ref c1)]))
    refine own_st (fun t k => XS.iand X83.here hx rfl (hb hby at_37) rfl k) ?_
    show OGo p e below s room_1 (OLawQ n0) (T83.setTop (mkF m 38 #[.val (.int q1), .val (.int q2), .val (.int q3), .val (.int q4), .val (.int q5), .val (.ref rf), .val .null, .val (.ref c1), .unset, .unset, .unset] [(.int (q4 &&& (255 : Int32))), (.int (1 : Int32)), (.ref c1)]))
    refine own_st (fun t k => XS.i2c X83.here hx rfl (hb hby at_38) rfl k) ?_
    show OGo p e below s room_1 (OLawQ n0) (T83.setTop (mkF m 39 #[.val (.int q1), .val (.int q2), .val (.int q3), .val (.int q4), .val (.int q5), .val (.ref rf), .val .null, .val (.ref c1), .unset, .unset, .unset] [(.int (q4 &&& (255 : Int32)).toUInt32.toUInt16.toUInt32.toInt32), (.int (1 : Int32)), (.ref c1)]))
    obtain ⟨cl84, Ar84, Sz84, Hh84⟩ := id A_c1
    obtain ⟨T84, hp84, X84, e84, Ww84, st84⟩ := stC X83 hx hZ e83 Ar84 (j := (1 : Int32)) (own_in Sz84 (by decide) (by decide)) (g := (mkF m 39 #[.val (.int q1), .val (.int q2), .val (.int q3), .val (.int q4), .val (.int q5), .val (.ref rf), .val .null, .val (.ref c1), .unset, .unset, .unset] [(.int (q4 &&& (255 : Int32)).toUInt32.toUInt16.toUInt32.toInt32), (.int (1 : Int32)), (.ref c1)])) rfl rfl (hb hby at_39)
    have Nf84 := Fr.snoc X84 Nf83 old_c1
    have Z0 := Nat.le_trans Z0 (Keep.of_wr Ww84).1
    have S_COMPACT_STRINGS := S_COMPACT_STRINGS.wr Ww84
    have S_EMPTY_java_util_OptionalLong := S_EMPTY_java_util_OptionalLong.wr Ww84
    have S_EMPTY_java_util_Optional := S_EMPTY_java_util_Optional.wr Ww84
    have E_ol := E_ol.wr Ww84
    have F_isPresent_ol := F_isPresent_ol.other Ww84 (Or.inl ne_ol_c1)
    have E_oe := E_oe.wr Ww84
    have F_value_oe := F_value_oe.other Ww84 (Or.inl ne_oe_c1)
    have A_c1 := OAr.set Ar84 Sz84 Hh84 Ww84
    refine own_st st84 ?_
    show OGo p e below s room_1 (OLawQ n0) (T84.setTop (mkF m 40 #[.val (.int q1), .val (.int q2), .val (.int q3), .val (.int q4), .val (.int q5), .val (.ref rf), .val .null, .val (.ref c1), .unset, .unset, .unset] []))
    have A_c1 : OAr Z hp84 c1 .char 2 (fun j => .int ((own_c2 (nar .char (q3 &&& (255 : Int32)).toUInt32.toUInt16.toUInt32.toInt32) (nar .char (q4 &&& (255 : Int32)).toUInt32.toUInt16.toUInt32.toInt32)) j)) := A_c1.cong (fun j hj => by
      have : j = 0 ∨ j = 1 := by have : j < 2 := hj; omega
      rcases this with rfl | rfl <;> rfl)
    obtain ⟨T85, hp85, X85, e85, Ex85, Aa85, Dd85, -, st85⟩ := newO X84 hx hZ hown (hw _ (List.mem_of_getElem? (i := 9) rfl)) (hw _ (List.mem_of_getElem? (i := 10) rfl)) (hw _ (List.mem_of_getElem? (i := 11) rfl)) e84 (g := (mkF m 40 #[.val (.int q1), .val (.int q2), .val (.int q3), .val (.int q4), .val (.int q5), .val (.ref rf), .val .null, .val (.ref c1), .unset, .unset, .unset] [])) rfl (hb hby at_40) (by decide) (by decide)
    obtain ⟨s1, gs85⟩ : ∃ z, z = hp84.size := ⟨_, rfl⟩
    rw [← gs85] at Aa85 Dd85 st85
    have ne_ol_s1 : ol ≠ s1 := Nat.ne_of_lt (Nat.lt_of_lt_of_le E_ol.lt (Nat.le_of_eq gs85.symm))
    have ne_oe_s1 : oe ≠ s1 := Nat.ne_of_lt (Nat.lt_of_lt_of_le E_oe.lt (Nat.le_of_eq gs85.symm))
    have ne_c1_s1 : c1 ≠ s1 := Nat.ne_of_lt (Nat.lt_of_lt_of_le A_c1.lt (Nat.le_of_eq gs85.symm))
    have old_s1 : n0 ≤ s1 := Nat.le_trans Z0 (Nat.le_of_eq gs85.symm)
    have Z0 := Nat.le_trans Z0 Ex85.1
    have S_COMPACT_STRINGS := S_COMPACT_STRINGS.ext Ex85
    have S_EMPTY_java_util_OptionalLong := S_EMPTY_java_util_OptionalLong.ext Ex85
    have S_EMPTY_java_util_Optional := S_EMPTY_java_util_Optional.ext Ex85
    have E_ol := E_ol.ext Ex85
    have F_isPresent_ol := F_isPresent_ol.ext Ex85
    have E_oe := E_oe.ext Ex85
    have F_value_oe := F_value_oe.ext Ex85
    have A_c1 := A_c1.ext Ex85
    have E_s1 := Aa85
    have F_coder_s1 : Fld Z hp85 s1 "java/lang/String" "coder" "B" (.int (0 : Int32)) := Dd85 (Or.inr (hw _ (List.mem_of_getElem? (i := 35) rfl))) (ty := .byte) (by decide)
    have F_value_s1 : Fld Z hp85 s1 "java/lang/String" "value" "[B" .null := Dd85 (Or.inr (hw _ (List.mem_of_getElem? (i := 37) rfl))) (ty := (.array .byte)) (by decide)
    refine own_st st85 ?_
    show OGo p e below s room_1 (OLawQ n0) (T85.setTop (mkF m 43 #[.val (.int q1), .val (.int q2), .val (.int q3), .val (.int q4), .val (.int q5), .val (.ref rf), .val .null, .val (.ref c1), .unset, .unset, .unset] [(.ref s1)]))
    refine own_st (fun t k => XS.dup X85.here hx rfl (hb hby at_43) rfl rfl k) ?_
    show OGo p e below s room_1 (OLawQ n0) (T85.setTop (mkF m 44 #[.val (.int q1), .val (.int q2), .val (.int q3), .val (.int q4), .val (.int q5), .val (.ref rf), .val .null, .val (.ref c1), .unset, .unset, .unset] [(.ref s1), (.ref s1)]))
    refine own_st (fun t k => XS.aload X85.here hx rfl (hb hby at_44) rfl rfl k) ?_
    show OGo p e below s room_1 (OLawQ n0) (T85.setTop (mkF m 46 #[.val (.int q1), .val (.int q2), .val (.int q3), .val (.int q4), .val (.int q5), .val (.ref rf), .val .null, .val (.ref c1), .unset, .unset, .unset] [(.ref c1), (.ref s1), (.ref s1)]))
    obtain ⟨_, T86, Lc86, X86, hQ86, st86⟩ := own_callI X85 hx hZ (y := (⟨"java/lang/String", "<init>", "([C)V"⟩ : MethodName)) (W := 1) rfl hown (hw _ (List.mem_of_getElem? (i := 12) rfl)) (hw _ (List.mem_of_getElem? (i := 13) rfl)) (hw _ (List.mem_of_getElem? (i := 14) rfl)) (hw _ (List.mem_of_getElem? (i := 11) rfl)) (by decide) (sc5 l Z a0 hw s1 c1 2 (own_c2 (nar .char (q3 &&& (255 : Int32)).toUInt32.toUInt16.toUInt32.toInt32) (nar .char (q4 &&& (255 : Int32)).toUInt32.toUInt16.toUInt32.toInt32)) cs hp85 n0 Z0 old_s1 ne_c1_s1 E_s1 F_coder_s1 F_value_s1 A_c1 S_COMPACT_STRINGS (by decide) (by decide) (own_c2le _ _ (own_255 _) (own_255 _)) hcs) (by decide) (by decide) (a := s1) (g := (mkF m 46 #[.val (.int q1), .val (.int q2), .val (.int q3), .val (.int q4), .val (.int q5), .val (.ref rf), .val .null, .val (.ref c1), .unset, .unset, .unset] [(.ref c1), (.ref s1), (.ref s1)])) rfl (by rw [hml]; rfl) (argsL := [(.ref c1)]) (rest := [(.ref s1)]) (lenOf pd_17 rfl) rfl (by show 2 * 0 + _ ≤ _; exact Nat.le_of_eq rfl) (hb hby at_46) rfl e85 (by decide) (by decide)
    obtain ⟨t1, rfl, Nq86, Kq86, fq86_t1, q86_0, q86_1, q86_2, q86_3⟩ := hQ86
    have ne_ol_t1 : ol ≠ t1 := Nat.ne_of_lt (Nat.lt_of_lt_of_le E_ol.lt fq86_t1)
    have ne_oe_t1 : oe ≠ t1 := Nat.ne_of_lt (Nat.lt_of_lt_of_le E_oe.lt fq86_t1)
    have ne_c1_t1 : c1 ≠ t1 := Nat.ne_of_lt (Nat.lt_of_lt_of_le A_c1.lt fq86_t1)
    have ne_s1_t1 : s1 ≠ t1 := Nat.ne_of_lt (Nat.lt_of_lt_of_le E_s1.lt fq86_t1)
    have old_t1 : n0 ≤ t1 := Nat.le_trans Z0 fq86_t1
    have hpl_Kq86 : ∀ w ∈ [s1], ∃ c : Cell, hp85[w]? = some c ∧ c.vm.isStatics = false := (allS (own_pl_exa E_s1) all0)
    have Z0 := Nat.le_trans Z0 Kq86.1
    have S_COMPACT_STRINGS := own_sta_keep S_COMPACT_STRINGS Kq86 hpl_Kq86
    have S_EMPTY_java_util_OptionalLong := own_sta_keep S_EMPTY_java_util_OptionalLong Kq86 hpl_Kq86
    have S_EMPTY_java_util_Optional := own_sta_keep S_EMPTY_java_util_Optional Kq86 hpl_Kq86
    have E_ol := E_ol.keep Kq86
    have F_isPresent_ol := F_isPresent_ol.keep Kq86 (ninS ne_ol_s1 nin0)
    have E_oe := E_oe.keep Kq86
    have F_value_oe := F_value_oe.keep Kq86 (ninS ne_oe_s1 nin0)
    have A_c1 := A_c1.keep Kq86 (ninS ne_c1_s1 nin0)
    have Nr86 := Fr.app Nf84 Nq86
    have E_s1 := q86_0
    have F_coder_s1 := q86_1
    have F_value_s1 := q86_2
    have A_t1 := q86_3
    refine own_st st86 ?_
    show OGo p e below s room_1 (OLawQ n0) (T86.setTop (mkF m 49 #[.val (.int q1), .val (.int q2), .val (.int q3), .val (.int q4), .val (.int q5), .val (.ref rf), .val .null, .val (.ref c1), .unset, .unset, .unset] [(.ref s1)]))
    refine own_st (fun t k => XS.astore X86.here hx rfl (hb hby at_49) rfl rfl (l' := #[.val (.int q1), .val (.int q2), .val (.int q3), .val (.int q4), .val (.int q5), .val (.ref rf), .val .null, .val (.ref c1), .val (.ref s1), .unset, .unset]) rfl k) ?_
    show OGo p e below s room_1 (OLawQ n0) (T86.setTop (mkF m 51 #[.val (.int q1), .val (.int q2), .val (.int q3), .val (.int q4), .val (.int q5), .val (.ref rf), .val .null, .val (.ref c1), .val (.ref s1), .unset, .unset] []))
    refine own_st (fun t k => XS.iload X86.here hx rfl (hb hby at_51) rfl k) ?_
    show OGo p e below s room_1 (OLawQ n0) (T86.setTop (mkF m 53 #[.val (.int q1), .val (.int q2), .val (.int q3), .val (.int q4), .val (.int q5), .val (.ref rf), .val .null, .val (.ref c1), .val (.ref s1), .unset, .unset] [(.int q5)]))
    refine own_st (fun t k => XS.sipush X86.here hx rfl (hb hby at_53) k) ?_
    show OGo p e below s room_1 (OLawQ n0) (T86.setTop (mkF m 56 #[.val (.int q1), .val (.int q2), .val (.int q3), .val (.int q4), .val (.int q5), .val (.ref rf), .val .null, .val (.ref c1), .val (.ref s1), .unset, .unset] [(.int (255 : Int32)), (.int q5)]))
    refine own_st (fun t k => XS.iand X86.here hx rfl (hb hby at_56) rfl k) ?_
    show OGo p e below s room_1 (OLawQ n0) (T86.setTop (mkF m 57 #[.val (.int q1), .val (.int q2), .val (.int q3), .val (.int q4), .val (.int q5), .val (.ref rf), .val .null, .val (.ref c1), .val (.ref s1), .unset, .unset] [(.int (q5 &&& (255 : Int32)))]))
    refine own_st (fun t k => XS.i2c X86.here hx rfl (hb hby at_57) rfl k) ?_
    show OGo p e below s room_1 (OLawQ n0) (T86.setTop (mkF m 58 #[.val (.int q1), .val (.int q2), .val (.int q3), .val (.int q4), .val (.int q5), .val (.ref rf), .val .null, .val (.ref c1), .val (.ref s1), .unset, .unset] [(.int (q5 &&& (255 : Int32)).toUInt32.toUInt16.toUInt32.toInt32)]))
    obtain ⟨_, T87, Lc87, X87, hQ87, st87⟩ := own_callS X86 hx hZ (y := (⟨"java/lang/String", "valueOf", "(C)Ljava/lang/String;"⟩ : MethodName)) (W := 0) hown (hw _ (List.mem_of_getElem? (i := 38) rfl)) (hw _ (List.mem_of_getElem? (i := 39) rfl)) (hw _ (List.mem_of_getElem? (i := 11) rfl)) (hw _ (List.mem_of_getElem? (i := 40) rfl)) (by decide) (sc11 l Z a0 hw (q5 &&& (255 : Int32)).toUInt32.toUInt16.toUInt32.toInt32 cs T86.heap n0 Z0 S_COMPACT_STRINGS hcs (own_i2c255 _)) (by decide) (by decide) (g := (mkF m 58 #[.val (.int q1), .val (.int q2), .val (.int q3), .val (.int q4), .val (.int q5), .val (.ref rf), .val .null, .val (.ref c1), .val (.ref s1), .unset, .unset] [(.int (q5 &&& (255 : Int32)).toUInt32.toUInt16.toUInt32.toInt32)])) rfl (by rw [hml]; rfl) (argsL := [(.int (q5 &&& (255 : Int32)).toUInt32.toUInt16.toUInt32.toInt32)]) (rest := []) (lenOf pd_18 rfl) rfl (by show 2 * 0 + _ ≤ _; exact Nat.le_of_eq rfl) (hb hby at_58) rfl rfl (by decide) (by decide)
    obtain ⟨s2, t2, rfl, Nq87, Kq87, fq87_s2, fq87_t2, nq87_s2_t2, q87_0, q87_1, q87_2, q87_3⟩ := hQ87
    have ne_ol_s2 : ol ≠ s2 := Nat.ne_of_lt (Nat.lt_of_lt_of_le E_ol.lt fq87_s2)
    have ne_oe_s2 : oe ≠ s2 := Nat.ne_of_lt (Nat.lt_of_lt_of_le E_oe.lt fq87_s2)
    have old_s2 : n0 ≤ s2 := Nat.le_trans Z0 fq87_s2
    have ne_ol_t2 : ol ≠ t2 := Nat.ne_of_lt (Nat.lt_of_lt_of_le E_ol.lt fq87_t2)
    have ne_oe_t2 : oe ≠ t2 := Nat.ne_of_lt (Nat.lt_of_lt_of_le E_oe.lt fq87_t2)
    have old_t2 : n0 ≤ t2 := Nat.le_trans Z0 fq87_t2
    have hpl_Kq87 : ∀ w ∈ ([] : List Addr), ∃ c : Cell, T86.heap[w]? = some c ∧ c.vm.isStatics = false := all0
    have Z0 := Nat.le_trans Z0 Kq87.1
    have S_COMPACT_STRINGS := own_sta_keep S_COMPACT_STRINGS Kq87 hpl_Kq87
    have S_EMPTY_java_util_OptionalLong := own_sta_keep S_EMPTY_java_util_OptionalLong Kq87 hpl_Kq87
    have S_EMPTY_java_util_Optional := own_sta_keep S_EMPTY_java_util_Optional Kq87 hpl_Kq87
    have E_ol := E_ol.keep Kq87
    have F_isPresent_ol := F_isPresent_ol.keep Kq87 nin0
    have E_oe := E_oe.keep Kq87
    have F_value_oe := F_value_oe.keep Kq87 nin0
    have Nr87 := Fr.app Nr86 Nq87
    have E_s2 := q87_0
    have F_coder_s2 := q87_1
    have F_value_s2 := q87_2
    have A_t2 := q87_3
    refine own_st st87 ?_
    show OGo p e below s room_1 (OLawQ n0) (T87.setTop (mkF m 61 #[.val (.int q1), .val (.int q2), .val (.int q3), .val (.int q4), .val (.int q5), .val (.ref rf), .val .null, .val (.ref c1), .val (.ref s1), .unset, .unset] [(.ref s2)]))
    refine own_st (fun t k => XS.astore X87.here hx rfl (hb hby at_61) rfl rfl (l' := #[.val (.int q1), .val (.int q2), .val (.int q3), .val (.int q4), .val (.int q5), .val (.ref rf), .val .null, .val (.ref c1), .val (.ref s1), .val (.ref s2), .unset]) rfl k) ?_
    show OGo p e below s room_1 (OLawQ n0) (T87.setTop (mkF m 63 #[.val (.int q1), .val (.int q2), .val (.int q3), .val (.int q4), .val (.int q5), .val (.ref rf), .val .null, .val (.ref c1), .val (.ref s1), .val (.ref s2), .unset] []))
    refine own_st (fun t k => XS.iload X87.here hx rfl (hb hby at_63) rfl k) ?_
    show OGo p e below s room_1 (OLawQ n0) (T87.setTop (mkF m 65 #[.val (.int q1), .val (.int q2), .val (.int q3), .val (.int q4), .val (.int q5), .val (.ref rf), .val .null, .val (.ref c1), .val (.ref s1), .val (.ref s2), .unset] [(.int q5)]))
    refine own_st (fun t k => XS.bipush X87.here hx rfl (hb hby at_65) k) ?_
    show OGo p e below s room_1 (OLawQ n0) (T87.setTop (mkF m 67 #[.val (.int q1), .val (.int q2), .val (.int q3), .val (.int q4), .val (.int q5), .val (.ref rf), .val .null, .val (.ref c1), .val (.ref s1), .val (.ref s2), .unset] [(.int (8 : Int32)), (.int q5)]))
    refine own_st (fun t k => XS.iushr X87.here hx rfl (hb hby at_67) rfl k) ?_
    show OGo p e below s room_1 (OLawQ n0) (T87.setTop (mkF m 68 #[.val (.int q1), .val (.int q2), .val (.int q3), .val (.int q4), .val (.int q5), .val (.ref rf), .val .null, .val (.ref c1), .val (.ref s1), .val (.ref s2), .unset] [(.int ((q5.toUInt32 >>> ((8 : Int32) &&& 31).toUInt32).toInt32))]))
    refine own_st (fun t k => XS.sipush X87.here hx rfl (hb hby at_68) k) ?_
    show OGo p e below s room_1 (OLawQ n0) (T87.setTop (mkF m 71 #[.val (.int q1), .val (.int q2), .val (.int q3), .val (.int q4), .val (.int q5), .val (.ref rf), .val .null, .val (.ref c1), .val (.ref s1), .val (.ref s2), .unset] [(.int (255 : Int32)), (.int ((q5.toUInt32 >>> ((8 : Int32) &&& 31).toUInt32).toInt32))]))
    refine own_st (fun t k => XS.iand X87.here hx rfl (hb hby at_71) rfl k) ?_
    show OGo p e below s room_1 (OLawQ n0) (T87.setTop (mkF m 72 #[.val (.int q1), .val (.int q2), .val (.int q3), .val (.int q4), .val (.int q5), .val (.ref rf), .val .null, .val (.ref c1), .val (.ref s1), .val (.ref s2), .unset] [(.int (((q5.toUInt32 >>> ((8 : Int32) &&& 31).toUInt32).toInt32) &&& (255 : Int32)))]))
    refine own_st (fun t k => XS.i2c X87.here hx rfl (hb hby at_72) rfl k) ?_
    show OGo p e below s room_1 (OLawQ n0) (T87.setTop (mkF m 73 #[.val (.int q1), .val (.int q2), .val (.int q3), .val (.int q4), .val (.int q5), .val (.ref rf), .val .null, .val (.ref c1), .val (.ref s1), .val (.ref s2), .unset] [(.int (((q5.toUInt32 >>> ((8 : Int32) &&& 31).toUInt32).toInt32) &&& (255 : Int32)).toUInt32.toUInt16.toUInt32.toInt32)]))
    obtain ⟨_, T88, Lc88, X88, hQ88, st88⟩ := own_callS X87 hx hZ (y := (⟨"java/lang/String", "valueOf", "(C)Ljava/lang/String;"⟩ : MethodName)) (W := 0) hown (hw _ (List.mem_of_getElem? (i := 38) rfl)) (hw _ (List.mem_of_getElem? (i := 39) rfl)) (hw _ (List.mem_of_getElem? (i := 11) rfl)) (hw _ (List.mem_of_getElem? (i := 40) rfl)) (by decide) (sc11 l Z a0 hw (((q5.toUInt32 >>> ((8 : Int32) &&& 31).toUInt32).toInt32) &&& (255 : Int32)).toUInt32.toUInt16.toUInt32.toInt32 cs T87.heap n0 Z0 S_COMPACT_STRINGS hcs (own_i2c255 _)) (by decide) (by decide) (g := (mkF m 73 #[.val (.int q1), .val (.int q2), .val (.int q3), .val (.int q4), .val (.int q5), .val (.ref rf), .val .null, .val (.ref c1), .val (.ref s1), .val (.ref s2), .unset] [(.int (((q5.toUInt32 >>> ((8 : Int32) &&& 31).toUInt32).toInt32) &&& (255 : Int32)).toUInt32.toUInt16.toUInt32.toInt32)])) rfl (by rw [hml]; rfl) (argsL := [(.int (((q5.toUInt32 >>> ((8 : Int32) &&& 31).toUInt32).toInt32) &&& (255 : Int32)).toUInt32.toUInt16.toUInt32.toInt32)]) (rest := []) (lenOf pd_18 rfl) rfl (by show 2 * 0 + _ ≤ _; exact Nat.le_of_eq rfl) (hb hby at_73) rfl rfl (by decide) (by decide)
    obtain ⟨s3, t3, rfl, Nq88, Kq88, fq88_s3, fq88_t3, nq88_s3_t3, q88_0, q88_1, q88_2, q88_3⟩ := hQ88
    have ne_ol_s3 : ol ≠ s3 := Nat.ne_of_lt (Nat.lt_of_lt_of_le E_ol.lt fq88_s3)
    have ne_oe_s3 : oe ≠ s3 := Nat.ne_of_lt (Nat.lt_of_lt_of_le E_oe.lt fq88_s3)
    have old_s3 : n0 ≤ s3 := Nat.le_trans Z0 fq88_s3
    have ne_ol_t3 : ol ≠ t3 := Nat.ne_of_lt (Nat.lt_of_lt_of_le E_ol.lt fq88_t3)
    have ne_oe_t3 : oe ≠ t3 := Nat.ne_of_lt (Nat.lt_of_lt_of_le E_oe.lt fq88_t3)
    have old_t3 : n0 ≤ t3 := Nat.le_trans Z0 fq88_t3
    have hpl_Kq88 : ∀ w ∈ ([] : List Addr), ∃ c : Cell, T87.heap[w]? = some c ∧ c.vm.isStatics = false := all0
    have Z0 := Nat.le_trans Z0 Kq88.1
    have S_COMPACT_STRINGS := own_sta_keep S_COMPACT_STRINGS Kq88 hpl_Kq88
    have S_EMPTY_java_util_OptionalLong := own_sta_keep S_EMPTY_java_util_OptionalLong Kq88 hpl_Kq88
    have S_EMPTY_java_util_Optional := own_sta_keep S_EMPTY_java_util_Optional Kq88 hpl_Kq88
    have E_ol := E_ol.keep Kq88
    have F_isPresent_ol := F_isPresent_ol.keep Kq88 nin0
    have E_oe := E_oe.keep Kq88
    have F_value_oe := F_value_oe.keep Kq88 nin0
    have Nr88 := Fr.app Nr87 Nq88
    have E_s3 := q88_0
    have F_coder_s3 := q88_1
    have F_value_s3 := q88_2
    have A_t3 := q88_3
    refine own_st st88 ?_
    show OGo p e below s room_1 (OLawQ n0) (T88.setTop (mkF m 76 #[.val (.int q1), .val (.int q2), .val (.int q3), .val (.int q4), .val (.int q5), .val (.ref rf), .val .null, .val (.ref c1), .val (.ref s1), .val (.ref s2), .unset] [(.ref s3)]))
    refine own_st (fun t k => XS.astore X88.here hx rfl (hb hby at_76) rfl rfl (l' := #[.val (.int q1), .val (.int q2), .val (.int q3), .val (.int q4), .val (.int q5), .val (.ref rf), .val .null, .val (.ref c1), .val (.ref s1), .val (.ref s2), .val (.ref s3)]) rfl k) ?_
    show OGo p e below s room_1 (OLawQ n0) (T88.setTop (mkF m 78 #[.val (.int q1), .val (.int q2), .val (.int q3), .val (.int q4), .val (.int q5), .val (.ref rf), .val .null, .val (.ref c1), .val (.ref s1), .val (.ref s2), .val (.ref s3)] []))
    obtain ⟨T89, hp89, X89, e89, Ex89, Aa89, Dd89, -, st89⟩ := newO X88 hx hZ hown (hw _ (List.mem_of_getElem? (i := 52) rfl)) (hw _ (List.mem_of_getElem? (i := 53) rfl)) (hw _ (List.mem_of_getElem? (i := 54) rfl)) rfl (g := (mkF m 78 #[.val (.int q1), .val (.int q2), .val (.int q3), .val (.int q4), .val (.int q5), .val (.ref rf), .val .null, .val (.ref c1), .val (.ref s1), .val (.ref s2), .val (.ref s3)] [])) rfl (hb hby at_78) (by decide) (by decide)
    obtain ⟨kn, gs89⟩ : ∃ z, z = T88.heap.size := ⟨_, rfl⟩
    rw [← gs89] at Aa89 Dd89 st89
    have ne_ol_kn : ol ≠ kn := Nat.ne_of_lt (Nat.lt_of_lt_of_le E_ol.lt (Nat.le_of_eq gs89.symm))
    have ne_oe_kn : oe ≠ kn := Nat.ne_of_lt (Nat.lt_of_lt_of_le E_oe.lt (Nat.le_of_eq gs89.symm))
    have old_kn : n0 ≤ kn := Nat.le_trans Z0 (Nat.le_of_eq gs89.symm)
    have Z0 := Nat.le_trans Z0 Ex89.1
    have S_COMPACT_STRINGS := S_COMPACT_STRINGS.ext Ex89
    have S_EMPTY_java_util_OptionalLong := S_EMPTY_java_util_OptionalLong.ext Ex89
    have S_EMPTY_java_util_Optional := S_EMPTY_java_util_Optional.ext Ex89
    have E_ol := E_ol.ext Ex89
    have F_isPresent_ol := F_isPresent_ol.ext Ex89
    have E_oe := E_oe.ext Ex89
    have F_value_oe := F_value_oe.ext Ex89
    have E_kn := Aa89
    have F_site_kn : Fld Z hp89 kn "com/example/plain_keys/plainkeys/key/KeyName" "site" "Ljava/lang/String;" .null := Dd89 (Or.inr (hw _ (List.mem_of_getElem? (i := 65) rfl))) (ty := (.object "java/lang/String")) (by decide)
    have F_identifier_kn : Fld Z hp89 kn "com/example/plain_keys/plainkeys/key/KeyName" "identifier" "Ljava/lang/String;" .null := Dd89 (Or.inr (hw _ (List.mem_of_getElem? (i := 67) rfl))) (ty := (.object "java/lang/String")) (by decide)
    have F_sig_kn : Fld Z hp89 kn "com/example/plain_keys/plainkeys/key/KeyName" "sig" "Ljava/lang/String;" .null := Dd89 (Or.inr (hw _ (List.mem_of_getElem? (i := 69) rfl))) (ty := (.object "java/lang/String")) (by decide)
    refine own_st st89 ?_
    show OGo p e below s room_1 (OLawQ n0) (T89.setTop (mkF m 81 #[.val (.int q1), .val (.int q2), .val (.int q3), .val (.int q4), .val (.int q5), .val (.ref rf), .val .null, .val (.ref c1), .val (.ref s1), .val (.ref s2), .val (.ref s3)] [(.ref kn)]))
    refine own_st (fun t k => XS.dup X89.here hx rfl (hb hby at_81) rfl rfl k) ?_
    show OGo p e below s room_1 (OLawQ n0) (T89.setTop (mkF m 82 #[.val (.int q1), .val (.int q2), .val (.int q3), .val (.int q4), .val (.int q5), .val (.ref rf), .val .null, .val (.ref c1), .val (.ref s1), .val (.ref s2), .val (.ref s3)] [(.ref kn), (.ref kn)]))
    refine own_st (fun t k => XS.aload X89.here hx rfl (hb hby at_82) rfl rfl k) ?_
    show OGo p e below s room_1 (OLawQ n0) (T89.setTop (mkF m 84 #[.val (.int q1), .val (.int q2), .val (.int q3), .val (.int q4), .val (.int q5), .val (.ref rf), .val .null, .val (.ref c1), .val (.ref s1), .val (.ref s2), .val (.ref s3)] [(.ref s1), (.ref kn), (.ref kn)]))
    refine own_st (fun t k => XS.aload X89.here hx rfl (hb hby at_84) rfl rfl k) ?_
    show OGo p e below s room_1 (OLawQ n0) (T89.setTop (mkF m 86 #[.val (.int q1), .val (.int q2), .val (.int q3), .val (.int q4), .val (.int q5), .val (.ref rf), .val .null, .val (.ref c1), .val (.ref s1), .val (.ref s2), .val (.ref s3)] [(.ref s2), (.ref s1), (.ref kn), (.ref kn)]))
    refine own_st (fun t k => XS.aload X89.here hx rfl (hb hby at_86) rfl rfl k) ?_
    show OGo p e below s room_1 (OLawQ n0) (T89.setTop (mkF m 88 #[.val (.int q1), .val (.int q2), .val (.int q3), .val (.int q4), .val (.int q5), .val (.ref rf), .val .null, .val (.ref c1), .val (.ref s1), .val (.ref s2), .val (.ref s3)] [(.ref s3), (.ref s2), (.ref s1), (.ref kn), (.ref kn)]))
    obtain ⟨_, T90, Lc90, X90, hQ90, st90⟩ := own_callI X89 hx hZ (y := (⟨"com/example/plain_keys/plainkeys/key/KeyName", "<init>", "(Ljava/lang/String;Ljava/lang/String;Ljava/lang/String;)V"⟩ : MethodName)) (W := 1) rfl hown (hw _ (List.mem_of_getElem? (i := 55) rfl)) (hw _ (List.mem_of_getElem? (i := 56) rfl)) (hw _ (List.mem_of_getElem? (i := 57) rfl)) (hw _ (List.mem_of_getElem? (i := 54) rfl)) (by decide) (rk l Z a0 hw kn s1 s2 s3 hp89 n0 Z0 old_kn E_kn F_site_kn F_identifier_kn F_sig_kn) (by decide) (by decide) (a := kn) (g := (mkF m 88 #[.val (.int q1), .val (.int q2), .val (.int q3), .val (.int q4), .val (.int q5), .val (.ref rf), .val .null, .val (.ref c1), .val (.ref s1), .val (.ref s2), .val (.ref s3)] [(.ref s3), (.ref s2), (.ref s1), (.ref kn), (.ref kn)])) rfl (by rw [hml]; rfl) (argsL := [(.ref s1), (.ref s2), (.ref s3)]) (rest := [(.ref kn)]) (lenOf pd_19 rfl) rfl (by show 2 * 0 + _ ≤ _; exact Nat.le_of_eq rfl) (hb hby at_88) rfl e89 (by decide) (by decide)
    obtain ⟨rfl, Nq90, Kq90, q90_0⟩ := hQ90
    have hpl_Kq90 : ∀ w ∈ [kn], ∃ c : Cell, hp89[w]? = some c ∧ c.vm.isStatics = false := (allS (own_pl_exa E_kn) all0)
    have Z0 := Nat.le_trans Z0 Kq90.1
    have S_COMPACT_STRINGS := own_sta_keep S_COMPACT_STRINGS Kq90 hpl_Kq90
    have S_EMPTY_java_util_OptionalLong := own_sta_keep S_EMPTY_java_util_OptionalLong Kq90 hpl_Kq90
    have S_EMPTY_java_util_Optional := own_sta_keep S_EMPTY_java_util_Optional Kq90 hpl_Kq90
    have E_ol := E_ol.keep Kq90
    have F_isPresent_ol := F_isPresent_ol.keep Kq90 (ninS ne_ol_kn nin0)
    have E_oe := E_oe.keep Kq90
    have F_value_oe := F_value_oe.keep Kq90 (ninS ne_oe_kn nin0)
    have Nr90 := Fr.app Nr88 Nq90
    have E_kn := q90_0
    refine own_st st90 ?_
    show OGo p e below s room_1 (OLawQ n0) (T90.setTop (mkF m 91 #[.val (.int q1), .val (.int q2), .val (.int q3), .val (.int q4), .val (.int q5), .val (.ref rf), .val .null, .val (.ref c1), .val (.ref s1), .val (.ref s2), .val (.ref s3)] [(.ref kn)]))
    refine own_st (fun t k => XS.astore X90.here hx rfl (hb hby at_91) rfl rfl (l' := #[.val (.int q1), .val (.int q2), .val (.int q3), .val (.int q4), .val (.int q5), .val (.ref rf), .val (.ref kn), .val (.ref c1), .val (.ref s1), .val (.ref s2), .val (.ref s3)]) rfl k) ?_
    show OGo p e below s room_1 (OLawQ n0) (T90.setTop (mkF m 93 #[.val (.int q1), .val (.int q2), .val (.int q3), .val (.int q4), .val (.int q5), .val (.ref rf), .val (.ref kn), .val (.ref c1), .val (.ref s1), .val (.ref s2), .val (.ref s3)] []))
    refine own_st (fun t k => XS.aload X90.here hx rfl (hb hby at_93) rfl rfl k) ?_
    show OGo p e below s room_1 (OLawQ n0) (T90.setTop (mkF m 95 #[.val (.int q1), .val (.int q2), .val (.int q3), .val (.int q4), .val (.int q5), .val (.ref rf), .val (.ref kn), .val (.ref c1), .val (.ref s1), .val (.ref s2), .val (.ref s3)] [(.ref rf)]))
    refine own_st (fun t k => XS.aload X90.here hx rfl (hb hby at_95) rfl rfl k) ?_
    show OGo p e below s room_1 (OLawQ n0) (T90.setTop (mkF m 97 #[.val (.int q1), .val (.int q2), .val (.int q3), .val (.int q4), .val (.int q5), .val (.ref rf), .val (.ref kn), .val (.ref c1), .val (.ref s1), .val (.ref s2), .val (.ref s3)] [(.ref kn), (.ref rf)]))
    obtain ⟨_, T91, Lc91, X91, hQ91, st91⟩ := own_callS X90 hx hZ (y := (⟨"com/example/plain_keys/plainkeys/key/Verdict", "refused", "(Lcom/example/plain_keys/plainkeys/key/Refusal;Lcom/example/plain_keys/plainkeys/key/KeyName;)Lcom/example/plain_keys/plainkeys/key/Verdict;"⟩ : MethodName)) (W := 0) hown (hw _ (List.mem_of_getElem? (i := 70) rfl)) (hw _ (List.mem_of_getElem? (i := 71) rfl)) (hw _ (List.mem_of_getElem? (i := 72) rfl)) (hw _ (List.mem_of_getElem? (i := 73) rfl)) (by decide) (rf1 l Z a0 hw rf kn T90.heap n0 Z0) (by decide) (by decide) (g := (mkF m 97 #[.val (.int q1), .val (.int q2), .val (.int q3), .val (.int q4), .val (.int q5), .val (.ref rf), .val (.ref kn), .val (.ref c1), .val (.ref s1), .val (.ref s2), .val (.ref s3)] [(.ref kn), (.ref rf)])) rfl (by rw [hml]; rfl) (argsL := [(.ref rf), (.ref kn)]) (rest := []) (lenOf pd_14 rfl) rfl (by show 2 * 0 + _ ≤ _; exact Nat.le_of_eq rfl) (hb hby at_97) rfl rfl (by decide) (by decide)
    obtain ⟨v1, rfl, Nq91, Kq91, fq91_v1, q91_0, q91_1, q91_2, q91_3⟩ := hQ91
    have ne_ol_v1 : ol ≠ v1 := Nat.ne_of_lt (Nat.lt_of_lt_of_le E_ol.lt fq91_v1)
    have ne_oe_v1 : oe ≠ v1 := Nat.ne_of_lt (Nat.lt_of_lt_of_le E_oe.lt fq91_v1)
    have ne_kn_v1 : kn ≠ v1 := Nat.ne_of_lt (Nat.lt_of_lt_of_le E_kn.lt fq91_v1)
    have old_v1 : n0 ≤ v1 := Nat.le_trans Z0 fq91_v1
    have hpl_Kq91 : ∀ w ∈ ([] : List Addr), ∃ c : Cell, T90.heap[w]? = some c ∧ c.vm.isStatics = false := all0
    have Z0 := Nat.le_trans Z0 Kq91.1
    have S_COMPACT_STRINGS := own_sta_keep S_COMPACT_STRINGS Kq91 hpl_Kq91
    have S_EMPTY_java_util_OptionalLong := own_sta_keep S_EMPTY_java_util_OptionalLong Kq91 hpl_Kq91
    have S_EMPTY_java_util_Optional := own_sta_keep S_EMPTY_java_util_Optional Kq91 hpl_Kq91
    have E_ol := E_ol.keep Kq91
    have F_isPresent_ol := F_isPresent_ol.keep Kq91 nin0
    have E_oe := E_oe.keep Kq91
    have F_value_oe := F_value_oe.keep Kq91 nin0
    have E_kn := E_kn.keep Kq91
    have Nr91 := Fr.app Nr90 Nq91
    have E_v1 := q91_0
    have F_name_v1 := q91_1
    have F_refusal_v1 := q91_2
    have F_entry_v1 := q91_3
    refine own_st st91 ?_
    show OGo p e below s room_1 (OLawQ n0) (T91.setTop (mkF m 100 #[.val (.int q1), .val (.int q2), .val (.int q3), .val (.int q4), .val (.int q5), .val (.ref rf), .val (.ref kn), .val (.ref c1), .val (.ref s1), .val (.ref s2), .val (.ref s3)] [(.ref v1)]))
    refine own_st (fun t k => XS.astore X91.here hx rfl (hb hby at_100) rfl rfl (l' := #[.val (.int q1), .val (.int q2), .val (.int q3), .val (.int q4), .val (.int q5), .val (.ref rf), .val (.ref kn), .val (.ref v1), .val (.ref s1), .val (.ref s2), .val (.ref s3)]) rfl k) ?_
    show OGo p e below s room_1 (OLawQ n0) (T91.setTop (mkF m 102 #[.val (.int q1), .val (.int q2), .val (.int q3), .val (.int q4), .val (.int q5), .val (.ref rf), .val (.ref kn), .val (.ref v1), .val (.ref s1), .val (.ref s2), .val (.ref s3)] []))
    refine own_st (fun t k => XS.aload X91.here hx rfl (hb hby at_102) rfl rfl k) ?_
    show OGo p e below s room_1 (OLawQ n0) (T91.setTop (mkF m 104 #[.val (.int q1), .val (.int q2), .val (.int q3), .val (.int q4), .val (.int q5), .val (.ref rf), .val (.ref kn), .val (.ref v1), .val (.ref s1), .val (.ref s2), .val (.ref s3)] [(.ref v1)]))
    obtain ⟨T92, X92, e92, st92⟩ := own_callVP X91 hx hZ (y := (⟨"com/example/plain_keys/plainkeys/key/Verdict", "opens", "()Z"⟩ : MethodName)) (z := (⟨"com/example/plain_keys/plainkeys/key/Verdict", "opens", "()Z"⟩ : MethodName)) (W := 0) hown (hw _ (List.mem_of_getElem? (i := 93) rfl)) (hw _ (List.mem_of_getElem? (i := 94) rfl)) (notFace_of_selects (args := #[]) (mvT hZ (hw _ (List.mem_of_getElem? (i := 96) rfl)))) (hw _ (List.mem_of_getElem? (i := 96) rfl)) (hw _ (List.mem_of_getElem? (i := 95) rfl)) (hw _ (List.mem_of_getElem? (i := 97) rfl)) (hw _ (List.mem_of_getElem? (i := 72) rfl)) (by decide) (ro l Z a0 hw v1 rf T91.heap F_refusal_v1) (by decide) (by decide) E_v1 (g := (mkF m 104 #[.val (.int q1), .val (.int q2), .val (.int q3), .val (.int q4), .val (.int q5), .val (.ref rf), .val (.ref kn), .val (.ref v1), .val (.ref s1), .val (.ref s2), .val (.ref s3)] [(.ref v1)])) rfl (by rw [hml]; rfl) (argsL := []) (rest := []) (lenOf pd_9 rfl) rfl (by show 2 * 0 + _ ≤ _; exact Nat.le_of_eq rfl) (hb hby at_104) rfl rfl (by decide) (by decide)
    refine own_st st92 ?_
    show OGo p e below s room_1 (OLawQ n0) (T92.setTop (mkF m 107 #[.val (.int q1), .val (.int q2), .val (.int q3), .val (.int q4), .val (.int q5), .val (.ref rf), .val (.ref kn), .val (.ref v1), .val (.ref s1), .val (.ref s2), .val (.ref s3)] [(.int (0 : Int32))]))
    refine own_st (fun t k => XS.ifYes X92.here hx rfl (pc0 := 107) (pc' := 112) rfl (hb hby at_107) rfl ((if0 _ _).trans (teq ((by decide : (0 : Int32) = (0 : Int32)))).1) (by decide) (by decide) k) ?_
    show OGo p e below s room_1 (OLawQ n0) (T92.setTop (mkF m 112 #[.val (.int q1), .val (.int q2), .val (.int q3), .val (.int q4), .val (.int q5), .val (.ref rf), .val (.ref kn), .val (.ref v1), .val (.ref s1), .val (.ref s2), .val (.ref s3)] []))
    refine own_st (fun t k => XS.aload X92.here hx rfl (hb hby at_112) rfl rfl k) ?_
    show OGo p e below s room_1 (OLawQ n0) (T92.setTop (mkF m 114 #[.val (.int q1), .val (.int q2), .val (.int q3), .val (.int q4), .val (.int q5), .val (.ref rf), .val (.ref kn), .val (.ref v1), .val (.ref s1), .val (.ref s2), .val (.ref s3)] [(.ref v1)]))
    obtain ⟨T93, X93, e93, st93⟩ := own_callVP X92 hx hZ (y := (⟨"com/example/plain_keys/plainkeys/key/Verdict", "refusal", "()Lcom/example/plain_keys/plainkeys/key/Refusal;"⟩ : MethodName)) (z := (⟨"com/example/plain_keys/plainkeys/key/Verdict", "refusal", "()Lcom/example/plain_keys/plainkeys/key/Refusal;"⟩ : MethodName)) (W := 0) hown (hw _ (List.mem_of_getElem? (i := 98) rfl)) (hw _ (List.mem_of_getElem? (i := 99) rfl)) (notFace_of_selects (args := #[]) (mvT hZ (hw _ (List.mem_of_getElem? (i := 101) rfl)))) (hw _ (List.mem_of_getElem? (i := 101) rfl)) (hw _ (List.mem_of_getElem? (i := 100) rfl)) (hw _ (List.mem_of_getElem? (i := 102) rfl)) (hw _ (List.mem_of_getElem? (i := 72) rfl)) (by decide) (rg l Z a0 hw v1 rf T91.heap E_v1 F_refusal_v1) (by decide) (by decide) E_v1 (g := (mkF m 114 #[.val (.int q1), .val (.int q2), .val (.int q3), .val (.int q4), .val (.int q5), .val (.ref rf), .val (.ref kn), .val (.ref v1), .val (.ref s1), .val (.ref s2), .val (.ref s3)] [(.ref v1)])) rfl (by rw [hml]; rfl) (argsL := []) (rest := []) (lenOf pd_15 rfl) rfl (by show 2 * 0 + _ ≤ _; exact Nat.le_of_eq rfl) (hb hby at_114) rfl e92 (by decide) (by decide)
    refine own_st st93 ?_
    show OGo p e below s room_1 (OLawQ n0) (T93.setTop (mkF m 117 #[.val (.int q1), .val (.int q2), .val (.int q3), .val (.int q4), .val (.int q5), .val (.ref rf), .val (.ref kn), .val (.ref v1), .val (.ref s1), .val (.ref s2), .val (.ref s3)] [(.ref rf)]))
    refine own_st (fun t k => XS.aload X93.here hx rfl (hb hby at_117) rfl rfl k) ?_
    show OGo p e below s room_1 (OLawQ n0) (T93.setTop (mkF m 119 #[.val (.int q1), .val (.int q2), .val (.int q3), .val (.int q4), .val (.int q5), .val (.ref rf), .val (.ref kn), .val (.ref v1), .val (.ref s1), .val (.ref s2), .val (.ref s3)] [(.ref rf), (.ref rf)]))
    refine own_st (fun t k => Jvm.RoadKit.acmp (g := (mkF m 119 #[.val (.int q1), .val (.int q2), .val (.int q3), .val (.int q4), .val (.int q5), .val (.ref rf), .val (.ref kn), .val (.ref v1), .val (.ref s1), .val (.ref s2), .val (.ref s3)] [(.ref rf), (.ref rf)])) X93 hx rfl rfl rfl (pc0 := 119) (pc' := 124) (same := true) rfl (hb hby at_119) rfl (decide_eq_true rfl) (by decide) (by decide) k) ?_
    show OGo p e below s room_1 (OLawQ n0) (T93.setTop (mkF m 124 #[.val (.int q1), .val (.int q2), .val (.int q3), .val (.int q4), .val (.int q5), .val (.ref rf), .val (.ref kn), .val (.ref v1), .val (.ref s1), .val (.ref s2), .val (.ref s3)] []))
    refine own_st (fun t k => XS.aload X93.here hx rfl (hb hby at_124) rfl rfl k) ?_
    show OGo p e below s room_1 (OLawQ n0) (T93.setTop (mkF m 126 #[.val (.int q1), .val (.int q2), .val (.int q3), .val (.int q4), .val (.int q5), .val (.ref rf), .val (.ref kn), .val (.ref v1), .val (.ref s1), .val (.ref s2), .val (.ref s3)] [(.ref v1)]))
    obtain ⟨T94, X94, e94, st94⟩ := own_callVP X93 hx hZ (y := (⟨"com/example/plain_keys/plainkeys/key/Verdict", "entry", "()Ljava/util/OptionalLong;"⟩ : MethodName)) (z := (⟨"com/example/plain_keys/plainkeys/key/Verdict", "entry", "()Ljava/util/OptionalLong;"⟩ : MethodName)) (W := 0) hown (hw _ (List.mem_of_getElem? (i := 104) rfl)) (hw _ (List.mem_of_getElem? (i := 105) rfl)) (notFace_of_selects (args := #[]) (mvT hZ (hw _ (List.mem_of_getElem? (i := 107) rfl)))) (hw _ (List.mem_of_getElem? (i := 107) rfl)) (hw _ (List.mem_of_getElem? (i := 106) rfl)) (hw _ (List.mem_of_getElem? (i := 108) rfl)) (hw _ (List.mem_of_getElem? (i := 72) rfl)) (by decide) (rh l Z a0 hw v1 ol T91.heap F_entry_v1 S_EMPTY_java_util_OptionalLong) (by decide) (by decide) E_v1 (g := (mkF m 126 #[.val (.int q1), .val (.int q2), .val (.int q3), .val (.int q4), .val (.int q5), .val (.ref rf), .val (.ref kn), .val (.ref v1), .val (.ref s1), .val (.ref s2), .val (.ref s3)] [(.ref v1)])) rfl (by rw [hml]; rfl) (argsL := []) (rest := []) (lenOf pd_10 rfl) rfl (by show 2 * 0 + _ ≤ _; exact Nat.le_of_eq rfl) (hb hby at_126) rfl e93 (by decide) (by decide)
    refine own_st st94 ?_
    show OGo p e below s room_1 (OLawQ n0) (T94.setTop (mkF m 129 #[.val (.int q1), .val (.int q2), .val (.int q3), .val (.int q4), .val (.int q5), .val (.ref rf), .val (.ref kn), .val (.ref v1), .val (.ref s1), .val (.ref s2), .val (.ref s3)] [(.ref ol)]))
    obtain ⟨T95, X95, e95, st95⟩ := own_callVP X94 hx hZ (y := (⟨"java/util/OptionalLong", "isPresent", "()Z"⟩ : MethodName)) (z := (⟨"java/util/OptionalLong", "isPresent", "()Z"⟩ : MethodName)) (W := 0) hown (hw _ (List.mem_of_getElem? (i := 114) rfl)) (hw _ (List.mem_of_getElem? (i := 115) rfl)) (notFace_of_selects (args := #[]) (mvT hZ (hw _ (List.mem_of_getElem? (i := 117) rfl)))) (hw _ (List.mem_of_getElem? (i := 117) rfl)) (hw _ (List.mem_of_getElem? (i := 116) rfl)) (hw _ (List.mem_of_getElem? (i := 118) rfl)) (hw _ (List.mem_of_getElem? (i := 111) rfl)) (by decide) (ri l Z a0 hw ol T91.heap F_isPresent_ol) (by decide) (by decide) E_ol (g := (mkF m 129 #[.val (.int q1), .val (.int q2), .val (.int q3), .val (.int q4), .val (.int q5), .val (.ref rf), .val (.ref kn), .val (.ref v1), .val (.ref s1), .val (.ref s2), .val (.ref s3)] [(.ref ol)])) rfl (by rw [hml]; rfl) (argsL := []) (rest := []) (lenOf pd_9 rfl) rfl (by show 2 * 0 + _ ≤ _; exact Nat.le_of_eq rfl) (hb hby at_129) rfl e94 (by decide) (by decide)
    refine own_st st95 ?_
    show OGo p e below s room_1 (OLawQ n0) (T95.setTop (mkF m 132 #[.val (.int q1), .val (.int q2), .val (.int q3), .val (.int q4), .val (.int q5), .val (.ref rf), .val (.ref kn), .val (.ref v1), .val (.ref s1), .val (.ref s2), .val (.ref s3)] [(.int (0 : Int32))]))
    refine own_st (fun t k => XS.ifYes X95.here hx rfl (pc0 := 132) (pc' := 137) rfl (hb hby at_132) rfl ((if0 _ _).trans (teq ((by decide : (0 : Int32) = (0 : Int32)))).1) (by decide) (by decide) k) ?_
    show OGo p e below s room_1 (OLawQ n0) (T95.setTop (mkF m 137 #[.val (.int q1), .val (.int q2), .val (.int q3), .val (.int q4), .val (.int q5), .val (.ref rf), .val (.ref kn), .val (.ref v1), .val (.ref s1), .val (.ref s2), .val (.ref s3)] []))
    refine own_st (fun t k => XS.aload X95.here hx rfl (hb hby at_137) rfl rfl k) ?_
    show OGo p e below s room_1 (OLawQ n0) (T95.setTop (mkF m 139 #[.val (.int q1), .val (.int q2), .val (.int q3), .val (.int q4), .val (.int q5), .val (.ref rf), .val (.ref kn), .val (.ref v1), .val (.ref s1), .val (.ref s2), .val (.ref s3)] [(.ref v1)]))
    obtain ⟨_, T96, Lc96, X96, hQ96, st96⟩ := own_callV X95 hx hZ (y := (⟨"com/example/plain_keys/plainkeys/key/Verdict", "keyName", "()Ljava/util/Optional;"⟩ : MethodName)) (z := (⟨"com/example/plain_keys/plainkeys/key/Verdict", "keyName", "()Ljava/util/Optional;"⟩ : MethodName)) (W := 0) hown (hw _ (List.mem_of_getElem? (i := 121) rfl)) (hw _ (List.mem_of_getElem? (i := 122) rfl)) (notFace_of_selects (args := #[]) (mvT hZ (hw _ (List.mem_of_getElem? (i := 124) rfl)))) (hw _ (List.mem_of_getElem? (i := 124) rfl)) (hw _ (List.mem_of_getElem? (i := 123) rfl)) (hw _ (List.mem_of_getElem? (i := 125) rfl)) (hw _ (List.mem_of_getElem? (i := 72) rfl)) (by decide) (rkn1 l Z a0 hw v1 kn T91.heap n0 Z0 F_name_v1) (by decide) (by decide) E_v1 (g := (mkF m 139 #[.val (.int q1), .val (.int q2), .val (.int q3), .val (.int q4), .val (.int q5), .val (.ref rf), .val (.ref kn), .val (.ref v1), .val (.ref s1), .val (.ref s2), .val (.ref s3)] [(.ref v1)])) rfl (by rw [hml]; rfl) (argsL := []) (rest := []) (lenOf pd_16 rfl) rfl (by show 2 * 0 + _ ≤ _; exact Nat.le_of_eq rfl) (hb hby at_139) rfl e95 (by decide) (by decide)
    obtain ⟨o1, rfl, Nq96, Kq96, fq96_o1, q96_0, q96_1⟩ := hQ96
    have ne_ol_o1 : ol ≠ o1 := Nat.ne_of_lt (Nat.lt_of_lt_of_le E_ol.lt fq96_o1)
    have ne_oe_o1 : oe ≠ o1 := Nat.ne_of_lt (Nat.lt_of_lt_of_le E_oe.lt fq96_o1)
    have ne_kn_o1 : kn ≠ o1 := Nat.ne_of_lt (Nat.lt_of_lt_of_le E_kn.lt fq96_o1)
    have ne_v1_o1 : v1 ≠ o1 := Nat.ne_of_lt (Nat.lt_of_lt_of_le E_v1.lt fq96_o1)
    have old_o1 : n0 ≤ o1 := Nat.le_trans Z0 fq96_o1
    have hpl_Kq96 : ∀ w ∈ ([] : List Addr), ∃ c : Cell, T91.heap[w]? = some c ∧ c.vm.isStatics = false := all0
    have Z0 := Nat.le_trans Z0 Kq96.1
    have S_COMPACT_STRINGS := own_sta_keep S_COMPACT_STRINGS Kq96 hpl_Kq96
    have S_EMPTY_java_util_OptionalLong := own_sta_keep S_EMPTY_java_util_OptionalLong Kq96 hpl_Kq96
    have S_EMPTY_java_util_Optional := own_sta_keep S_EMPTY_java_util_Optional Kq96 hpl_Kq96
    have E_ol := E_ol.keep Kq96
    have F_isPresent_ol := F_isPresent_ol.keep Kq96 nin0
    have E_oe := E_oe.keep Kq96
    have F_value_oe := F_value_oe.keep Kq96 nin0
    have E_kn := E_kn.keep Kq96
    have E_v1 := E_v1.keep Kq96
    have F_name_v1 := F_name_v1.keep Kq96 nin0
    have F_refusal_v1 := F_refusal_v1.keep Kq96 nin0
    have F_entry_v1 := F_entry_v1.keep Kq96 nin0
    have Nr96 := Fr.app Nr91 Nq96
    have E_o1 := q96_0
    have F_value_o1 := q96_1
    refine own_st st96 ?_
    show OGo p e below s room_1 (OLawQ n0) (T96.setTop (mkF m 142 #[.val (.int q1), .val (.int q2), .val (.int q3), .val (.int q4), .val (.int q5), .val (.ref rf), .val (.ref kn), .val (.ref v1), .val (.ref s1), .val (.ref s2), .val (.ref s3)] [(.ref o1)]))
    refine own_st (fun t k => XS.astore X96.here hx rfl (hb hby at_142) rfl rfl (l' := #[.val (.int q1), .val (.int q2), .val (.int q3), .val (.int q4), .val (.int q5), .val (.ref rf), .val (.ref kn), .val (.ref v1), .val (.ref o1), .val (.ref s2), .val (.ref s3)]) rfl k) ?_
    show OGo p e below s room_1 (OLawQ n0) (T96.setTop (mkF m 144 #[.val (.int q1), .val (.int q2), .val (.int q3), .val (.int q4), .val (.int q5), .val (.ref rf), .val (.ref kn), .val (.ref v1), .val (.ref o1), .val (.ref s2), .val (.ref s3)] []))
    refine own_st (fun t k => XS.aload X96.here hx rfl (hb hby at_144) rfl rfl k) ?_
    show OGo p e below s room_1 (OLawQ n0) (T96.setTop (mkF m 146 #[.val (.int q1), .val (.int q2), .val (.int q3), .val (.int q4), .val (.int q5), .val (.ref rf), .val (.ref kn), .val (.ref v1), .val (.ref o1), .val (.ref s2), .val (.ref s3)] [(.ref kn)]))
    refine own_st (fun t k => XS.ifnonnullYes X96.here hx rfl (pc0 := 146) (pc' := 155) rfl (hb hby at_146) rfl (by decide) (by decide) k) ?_
    show OGo p e below s room_1 (OLawQ n0) (T96.setTop (mkF m 155 #[.val (.int q1), .val (.int q2), .val (.int q3), .val (.int q4), .val (.int q5), .val (.ref rf), .val (.ref kn), .val (.ref v1), .val (.ref o1), .val (.ref s2), .val (.ref s3)] []))
    refine own_st (fun t k => XS.aload X96.here hx rfl (hb hby at_155) rfl rfl k) ?_
    show OGo p e below s room_1 (OLawQ n0) (T96.setTop (mkF m 157 #[.val (.int q1), .val (.int q2), .val (.int q3), .val (.int q4), .val (.int q5), .val (.ref rf), .val (.ref kn), .val (.ref v1), .val (.ref o1), .val (.ref s2), .val (.ref s3)] [(.ref o1)]))
    obtain ⟨T97, X97, e97, st97⟩ := own_callVP X96 hx hZ (y := (⟨"java/util/Optional", "isPresent", "()Z"⟩ : MethodName)) (z := (⟨"java/util/Optional", "isPresent", "()Z"⟩ : MethodName)) (W := 0) hown (hw _ (List.mem_of_getElem? (i := 139) rfl)) (hw _ (List.mem_of_getElem? (i := 140) rfl)) (notFace_of_selects (args := #[]) (mvT hZ (hw _ (List.mem_of_getElem? (i := 142) rfl)))) (hw _ (List.mem_of_getElem? (i := 142) rfl)) (hw _ (List.mem_of_getElem? (i := 141) rfl)) (hw _ (List.mem_of_getElem? (i := 143) rfl)) (hw _ (List.mem_of_getElem? (i := 128) rfl)) (by decide) (rsp l Z a0 hw o1 kn T96.heap F_value_o1) (by decide) (by decide) E_o1 (g := (mkF m 157 #[.val (.int q1), .val (.int q2), .val (.int q3), .val (.int q4), .val (.int q5), .val (.ref rf), .val (.ref kn), .val (.ref v1), .val (.ref o1), .val (.ref s2), .val (.ref s3)] [(.ref o1)])) rfl (by rw [hml]; rfl) (argsL := []) (rest := []) (lenOf pd_9 rfl) rfl (by show 2 * 0 + _ ≤ _; exact Nat.le_of_eq rfl) (hb hby at_157) rfl rfl (by decide) (by decide)
    refine own_st st97 ?_
    show OGo p e below s room_1 (OLawQ n0) (T97.setTop (mkF m 160 #[.val (.int q1), .val (.int q2), .val (.int q3), .val (.int q4), .val (.int q5), .val (.ref rf), .val (.ref kn), .val (.ref v1), .val (.ref o1), .val (.ref s2), .val (.ref s3)] [(.int (1 : Int32))]))
    refine own_st (fun t k => XS.ifNo X97.here hx rfl (hb hby at_160) rfl ((if0 _ _).trans (feq ((by decide : ¬ (1 : Int32) = (0 : Int32)))).1) k) ?_
    show OGo p e below s room_1 (OLawQ n0) (T97.setTop (mkF m 163 #[.val (.int q1), .val (.int q2), .val (.int q3), .val (.int q4), .val (.int q5), .val (.ref rf), .val (.ref kn), .val (.ref v1), .val (.ref o1), .val (.ref s2), .val (.ref s3)] []))
    refine own_st (fun t k => XS.aload X97.here hx rfl (hb hby at_163) rfl rfl k) ?_
    show OGo p e below s room_1 (OLawQ n0) (T97.setTop (mkF m 165 #[.val (.int q1), .val (.int q2), .val (.int q3), .val (.int q4), .val (.int q5), .val (.ref rf), .val (.ref kn), .val (.ref v1), .val (.ref o1), .val (.ref s2), .val (.ref s3)] [(.ref o1)]))
    obtain ⟨T98, X98, e98, st98⟩ := own_callVP X97 hx hZ (y := (⟨"java/util/Optional", "get", "()Ljava/lang/Object;"⟩ : MethodName)) (z := (⟨"java/util/Optional", "get", "()Ljava/lang/Object;"⟩ : MethodName)) (W := 0) hown (hw _ (List.mem_of_getElem? (i := 144) rfl)) (hw _ (List.mem_of_getElem? (i := 145) rfl)) (notFace_of_selects (args := #[]) (mvT hZ (hw _ (List.mem_of_getElem? (i := 147) rfl)))) (hw _ (List.mem_of_getElem? (i := 147) rfl)) (hw _ (List.mem_of_getElem? (i := 146) rfl)) (hw _ (List.mem_of_getElem? (i := 148) rfl)) (hw _ (List.mem_of_getElem? (i := 128) rfl)) (by decide) (rge l Z a0 hw o1 kn T96.heap F_value_o1) (by decide) (by decide) E_o1 (g := (mkF m 165 #[.val (.int q1), .val (.int q2), .val (.int q3), .val (.int q4), .val (.int q5), .val (.ref rf), .val (.ref kn), .val (.ref v1), .val (.ref o1), .val (.ref s2), .val (.ref s3)] [(.ref o1)])) rfl (by rw [hml]; rfl) (argsL := []) (rest := []) (lenOf pd_20 rfl) rfl (by show 2 * 0 + _ ≤ _; exact Nat.le_of_eq rfl) (hb hby at_165) rfl e97 (by decide) (by decide)
    refine own_st st98 ?_
    show OGo p e below s room_1 (OLawQ n0) (T98.setTop (mkF m 168 #[.val (.int q1), .val (.int q2), .val (.int q3), .val (.int q4), .val (.int q5), .val (.ref rf), .val (.ref kn), .val (.ref v1), .val (.ref o1), .val (.ref s2), .val (.ref s3)] [(.ref kn)]))
    refine own_st (fun t k => XS.aload X98.here hx rfl (hb hby at_168) rfl rfl k) ?_
    show OGo p e below s room_1 (OLawQ n0) (T98.setTop (mkF m 170 #[.val (.int q1), .val (.int q2), .val (.int q3), .val (.int q4), .val (.int q5), .val (.ref rf), .val (.ref kn), .val (.ref v1), .val (.ref o1), .val (.ref s2), .val (.ref s3)] [(.ref kn), (.ref kn)]))
    refine own_st (fun t k => Jvm.RoadKit.acmp (g := (mkF m 170 #[.val (.int q1), .val (.int q2), .val (.int q3), .val (.int q4), .val (.int q5), .val (.ref rf), .val (.ref kn), .val (.ref v1), .val (.ref o1), .val (.ref s2), .val (.ref s3)] [(.ref kn), (.ref kn)])) X98 hx rfl rfl rfl (pc0 := 170) (pc' := 173) (same := true) rfl (hb hby at_170) rfl (decide_eq_true rfl) (by decide) (by decide) k) ?_
    show OGo p e below s room_1 (OLawQ n0) (T98.setTop (mkF m 173 #[.val (.int q1), .val (.int q2), .val (.int q3), .val (.int q4), .val (.int q5), .val (.ref rf), .val (.ref kn), .val (.ref v1), .val (.ref o1), .val (.ref s2), .val (.ref s3)] []))
    refine own_st (fun t k => XS.iconst X98.here hx rfl (hb hby at_173) k) ?_
    show OGo p e below s room_1 (OLawQ n0) (T98.setTop (mkF m 174 #[.val (.int q1), .val (.int q2), .val (.int q3), .val (.int q4), .val (.int q5), .val (.ref rf), .val (.ref kn), .val (.ref v1), .val (.ref o1), .val (.ref s2), .val (.ref s3)] [(.int (1 : Int32))]))
    refine own_st (fun t k => XS.goto X98.here hx rfl (pc0 := 174) (pc' := 178) rfl (hb hby at_174) (by decide) (by decide) k) ?_
    show OGo p e below s room_1 (OLawQ n0) (T98.setTop (mkF m 178 #[.val (.int q1), .val (.int q2), .val (.int q3), .val (.int q4), .val (.int q5), .val (.ref rf), .val (.ref kn), .val (.ref v1), .val (.ref o1), .val (.ref s2), .val (.ref s3)] [(.int (1 : Int32))]))
    exact own_retN X98 hx hlk (t := .boolean) hret (by simp) (hb hby at_178) (by decide) (by decide) (⟨rfl, Nr96⟩)
theorem own_fldeq {args : Array Value} {s : State} {t : Term} {a : Addr} {C n d : String} {v : Int32} (ht : t.eval args s none [] s = some (.ref a)) (h : (Jvm.Cond.eq (.field t C n d) (.int v)).value args s none s [] = some true) : Fld s s.heap a C n d (.int v) := by
  have ef := fld_at (C := C) (n := n) (dd := d) ht
  refine Fld.start ?_
  cases hf : s.fieldOf? a C n d with
  | none => rw [hf] at ef; simp only [Cond.value, ef] at h; cases h
  | some x =>
    rw [hf] at ef
    cases x <;> simp only [Cond.value, ef, Term.int_eval] at h <;> first | (cases h; done) | skip
    simp only [Option.some.injEq, decide_eq_true_eq] at h
    rw [h]
theorem own_fldnull {args : Array Value} {s : State} {t : Term} {a : Addr} {C n d : String} (ht : t.eval args s none [] s = some (.ref a)) (h : (Jvm.Cond.eq (.field t C n d) .null).value args s none s [] = some true) : Fld s s.heap a C n d .null := by
  have ef := fld_at (C := C) (n := n) (dd := d) ht
  exact Fld.start (ef.symm.trans (null_v h))
set_option maxRecDepth 65536 in
set_option maxHeartbeats 40000000 in
theorem comes_1 {Post : Tables → Env → Array Value → State → Outcome → State → Prop} (hpost : ∀ tb e args s v u, (limb_1_1.after args s (.returned v) u = true ∧ limb_1_2.after args s (.returned v) u = true ∧ True) → FrameEnd s (.returned v) u (Jvm.fieldLocs frame_1_writes args s ++ Jvm.arrayLocs frame_1_arrays args s ++ Jvm.staticLocs frame_1_statics s) 32 128 → Post tb e args s (.returned v) u) :
    ArmFor flags0 classFile x code maxLocals ret World_1 tables_1 room_1 Calls_1 rest_1 Pre_1 Post := by
  intro l hfl _ _ p e ha hc hk s m args below hf hA hF happ hP
  obtain ⟨hcalls, hrest, hpre⟩ := hP
  obtain ⟨-, -, -, hnamed, -, -, -, hat⟩ := (Spec.applies_iff hf).mp happ
  obtain ⟨hg, hn⟩ := and_e (Cond.before_iff.mp (show (Jvm.Cond.and given_1 narrow_1).before args s = true from hpre))
  obtain ⟨gs1, gs2⟩ := and_e hg
  obtain ⟨gs3, gs4⟩ := and_e gs2
  obtain ⟨gs5, gs6⟩ := and_e gs4
  obtain ⟨gs7, gs8⟩ := and_e gs6
  obtain ⟨gs9, gs10⟩ := and_e gs8
  obtain ⟨w0, w1, w2, w3, w4, rfl⟩ : ∃ w0 w1 w2 w3 w4 : Value, args = #[w0, w1, w2, w3, w4] := by
    have hs : args.size = 5 := by simpa [Cond.value, given_1] using gs1
    obtain ⟨L⟩ := args
    match L, hs with
    | [w0, w1, w2, w3, w4], _ => exact ⟨w0, w1, w2, w3, w4, rfl⟩
  have hw := fun d (hd : d ∈ tables_1) => atoms_spec (ws := Jvm.Cond.code x code maxLocals ret :: tables_1) hat d (List.mem_cons_of_mem _ hd)
  have hfit : Fit s := fun {y c} hc i hi => by
    obtain ⟨ha, rfl⟩ := Array.getElem?_eq_some_iff.mp hc
    have q := List.all_eq_true.mp ((Array.all_eq_true_iff_forall_mem.mp hF) _ (Array.getElem_mem ha)) i (List.mem_range.mpr hi)
    simpa [Array.getElem?_eq_getElem hi] using q
  obtain ⟨hsets, hown0⟩ := atoms_of _ (rest_1_c_eq ▸ (show rest_1_c.before _ s = true from hrest))
  have hr0 := Cond.before_iff.mp hown0
  obtain ⟨i0, ei0⟩ := is_v gs3
  obtain rfl : w0 = (.int i0) := Option.some.inj ei0
  obtain ⟨i1, ei1⟩ := is_v gs5
  obtain rfl : w1 = (.int i1) := Option.some.inj ei1
  obtain ⟨i2, ei2⟩ := is_v gs7
  obtain rfl : w2 = (.int i2) := Option.some.inj ei2
  obtain ⟨i3, ei3⟩ := is_v gs9
  obtain rfl : w3 = (.int i3) := Option.some.inj ei3
  obtain ⟨i4, ei4⟩ := is_v gs10
  obtain rfl : w4 = (.int i4) := Option.some.inj ei4
  obtain ⟨k1, z1⟩ := and_e hn
  obtain ⟨k2, z2⟩ := and_e z1
  obtain ⟨k3, z3⟩ := and_e z2
  obtain ⟨k4, z4⟩ := and_e z3
  obtain ⟨k5, z5⟩ := and_e z4
  obtain ⟨k6, z6⟩ := and_e z5
  obtain ⟨b0, hb0⟩ := exa_v k1
  have hS0 := Sta.start hb0 (Or.inr ⟨(hw _ (List.mem_of_getElem? (i := 6) rfl)), (hw _ (List.mem_of_getElem? (i := 7) rfl))⟩)
  obtain ⟨b1, hb1⟩ := exa_v k4
  have hS1 := Sta.start hb1 (Or.inr ⟨(hw _ (List.mem_of_getElem? (i := 6) rfl)), (hw _ (List.mem_of_getElem? (i := 160) rfl))⟩)
  obtain ⟨b2, hb2⟩ := exa_v k6
  have hS2 := Sta.start hb2 (Or.inr ⟨(hw _ (List.mem_of_getElem? (i := 6) rfl)), (hw _ (List.mem_of_getElem? (i := 164) rfl))⟩)
  obtain ⟨b3, hb3⟩ := exa_v k2
  have hS3 := Sta.start hb3 (Or.inr ⟨(hw _ (List.mem_of_getElem? (i := 6) rfl)), (hw _ (List.mem_of_getElem? (i := 150) rfl))⟩)
  obtain ⟨b4, hb4⟩ := exa_v z6
  have hS4 := Sta.start hb4 (Or.inr ⟨(hw _ (List.mem_of_getElem? (i := 6) rfl)), (hw _ (List.mem_of_getElem? (i := 166) rfl))⟩)
  obtain ⟨b5, hb5⟩ := exa_v k3
  have hS5 := Sta.start hb5 (Or.inr ⟨(hw _ (List.mem_of_getElem? (i := 6) rfl)), (hw _ (List.mem_of_getElem? (i := 158) rfl))⟩)
  obtain ⟨b6, hb6⟩ := exa_v k5
  have hS6 := Sta.start hb6 (Or.inr ⟨(hw _ (List.mem_of_getElem? (i := 6) rfl)), (hw _ (List.mem_of_getElem? (i := 162) rfl))⟩)
  obtain ⟨cs, hcs⟩ := is_v (Cond.before_iff.mp (hsets _ (List.mem_of_getElem? (i := 1) rfl)))
  have hScs := Sta.start hcs (Or.inl (hsets _ (List.mem_of_getElem? (i := 0) rfl)))
  have hnz : ¬ cs = (0 : Int32) := by
    have u8 := not_v (Cond.before_iff.mp (hsets _ (List.mem_of_getElem? (i := 2) rfl)))
    simp only [Cond.value, hcs, Term.int_eval] at u8
    simpa using u8
  have u_ol := Cond.before_iff.mp (hsets _ (List.mem_of_getElem? (i := 11) rfl))
  obtain ⟨ol, h_ol⟩ := exa_v u_ol
  have S_ol := Sta.start h_ol (Or.inl (hsets _ (List.mem_of_getElem? (i := 10) rfl)))
  have E_ol := Exa.start h_ol u_ol
  have F_ol := own_fldeq h_ol (Cond.before_iff.mp (hsets _ (List.mem_of_getElem? (i := 12) rfl)))
  have u_oe := Cond.before_iff.mp (hsets _ (List.mem_of_getElem? (i := 16) rfl))
  obtain ⟨oe, h_oe⟩ := exa_v u_oe
  have S_oe := Sta.start h_oe (Or.inl (hsets _ (List.mem_of_getElem? (i := 15) rfl)))
  have E_oe := Exa.start h_oe u_oe
  have F_oe := own_fldnull h_oe (Cond.before_iff.mp (hsets _ (List.mem_of_getElem? (i := 17) rfl)))
  obtain ⟨n, o, h1, h2, h3, _, L, rfl, ⟨rfl, N⟩, hq⟩ := rm0 l s _ hw tables_1 i0 i1 i2 i3 i4 b0 b1 b2 b3 b4 b5 b6 cs ol oe s.heap s.heap.size (Nat.le_refl _) hS0 hS1 hS2 hS3 hS4 hS5 hS6 hScs S_ol S_oe E_ol F_ol E_oe F_oe hnz p e ha hc hk s m _ below hf ((Spec.applies_iff_loose hf).mp happ).1 ⟨rfl, State.Warmed39.refl s, rfl⟩ trivial
  refine ⟨n, _, h1, h2, h3, hpost _ _ _ _ _ _ ⟨Cond.after_iff.mpr rfl, Cond.after_iff.mpr (eq_i res_at (Term.int_eval (1)) rfl), trivial⟩ ⟨hq.1, hq.2.1, (hq.2.2.sift fun y hy => Or.inr (N y hy)).mono (by decide) (by decide)⟩⟩
theorem main_1_1 : Claimed_1_1 := comes_1 fun _ _ _ _ _ _ h hF => ⟨h.1, hF⟩
theorem main_1_2 : Claimed_1_2 := comes_1 fun _ _ _ _ _ _ h hF => ⟨h.2.1, hF⟩
end Jvm.Pilot.@@N@@
namespace Jvm.Pilot.@@N@@
open Jvm Jvm.ClassFile Sem Op Lib Jvm.Free Jvm.Stand Jvm.Pilot.@@N@@.Jvm.D
/-! MADE BY PROGRAM (witnessworld.py) out of the Statement's table words and the real class files: 26 classes; the members and pool entries that the words name. The judged class is class 1, her method 2. -/
namespace start1
open Jvm.ClassFile
def u (s : String) : CpInfo := .utf8 (stringToUtf16 s)
/-- a pool by its gaps: so many unusable entries, then the entry; so many at the end -/
def gap : Nat → List CpInfo → List CpInfo
  | 0, r => r
  | n + 1, r => .unusable :: gap n r
def poolList (es : List (Nat × CpInfo)) (last : Nat) : List CpInfo := es.foldr (fun e r => gap e.1 (e.2 :: r)) (gap last [])
def pool (es : List (Nat × CpInfo)) (last : Nat) : Array CpInfo := ⟨poolList es last⟩
def fileOf (pool : Array CpInfo) (this : Nat) (attrs : Array Attribute := #[]) (ms : Array MethodInfo := #[]) (fl : Nat := 33) (sup : Nat := 0) (ifs : Array Nat := #[]) (fds : Array FieldInfo := #[]) : ClassFile where
  minorVersion := 0
  majorVersion := 65
  constantPool := pool
  accessFlags := fl
  thisClass := this
  superClass := sup
  interfaces := ifs
  fields := fds
  methods := ms
  attributes := attrs
def plain (name : String) (sup : Option ClassId) : Class where
  name := name
  kind := .ordinary
  loader := none
  accessFlags := 33
  super := sup
  interfaces := #[]
  cf := none
  fields := #[]
  methods := #[]
  instanceTypes := #[]
  staticTypes := #[]
  resolved := #[]
  callSites := []
  init := .initialized
  statics := none
  mirror := none

def pool0 : Array CpInfo := pool [(5, u "<init>"), (0, u "()V"), (1, .class_ 10), (1, u "java/lang/Object")] 113

def k0c0 : Code := { maxStack := 0, maxLocals := 1, code := object_method_1_code, exceptionTable := #[], attributes := #[] }
def k0m0 : Method := { name := "<init>", desc := "()V", sig := { parameters := [], returnType := none }, accessFlags := 1, code := some k0c0 }
/-- java/lang/Object -/
def k0 : Class := { plain "java/lang/Object" none with
  accessFlags := 33
  interfaces := #[]
  cf := some (fileOf pool0 8 #[] #[{ accessFlags := 1, nameIndex := 5, descriptorIndex := 6, attributes := #[] }] 33 0 #[] #[])
  fields := #[]
  methods := #[k0m0]
  instanceTypes := #[]
  staticTypes := #[]
  resolved := Array.replicate 124 none
  statics := none }

def pool1 : Array CpInfo := pool [(2, .class_ 4), (1, u "java/lang/Object"), (0, u "<init>"), (0, u "()V"), (0, .integer 2147483647), (0, .fieldref 9 10), (0, .class_ 11), (0, .nameAndType 12 13), (0, u "com/example/plain_keys/plainkeys/key/Refusal"), (0, u "NO_SUCH_KEY"), (0, u "Lcom/example/plain_keys/plainkeys/key/Refusal;"), (0, .fieldref 9 15), (0, .nameAndType 16 13), (0, u "USED_UP"), (0, .fieldref 9 18), (0, .nameAndType 19 13), (0, u "NOT_YET"), (0, .fieldref 9 21), (0, .nameAndType 22 13), (0, u "EXPIRED"), (0, .fieldref 9 24), (0, .nameAndType 25 13), (0, u "REVOKED"), (0, .fieldref 9 27), (0, .nameAndType 28 13), (0, u "OUTSIDE"), (0, .fieldref 9 30), (0, .nameAndType 31 13), (0, u "UNCHECKABLE"), (0, .methodref 33 34), (0, .class_ 35), (0, .nameAndType 36 37), (0, u "com/example/plain_keys/plainkeys/key/VerdictRefusedPinLaw"), (0, u "pick"), (0, u "(I)Lcom/example/plain_keys/plainkeys/key/Refusal;"), (0, .class_ 39), (0, u "java/lang/String"), (0, .methodref 38 41), (0, .nameAndType 5 42), (0, u "([C)V"), (0, .methodref 38 44), (0, .nameAndType 45 46), (0, u "valueOf"), (0, u "(C)Ljava/lang/String;"), (0, .class_ 48), (0, u "com/example/plain_keys/plainkeys/key/KeyName"), (0, .methodref 47 50), (0, .nameAndType 5 51), (0, u "(Ljava/lang/String;Ljava/lang/String;Ljava/lang/String;)V"), (0, .methodref 53 54), (0, .class_ 55), (0, .nameAndType 56 57), (0, u "com/example/plain_keys/plainkeys/key/Verdict"), (0, u "refused"), (0, u "(Lcom/example/plain_keys/plainkeys/key/Refusal;Lcom/example/plain_keys/plainkeys/key/KeyName;)Lcom/example/plain_keys/plainkeys/key/Verdict;"), (0, .methodref 53 59), (0, .nameAndType 60 61), (0, u "opens"), (0, u "()Z"), (0, .methodref 53 63), (0, .nameAndType 64 65), (0, u "refusal"), (0, u "()Lcom/example/plain_keys/plainkeys/key/Refusal;"), (0, .methodref 53 67), (0, .nameAndType 68 69), (0, u "entry"), (0, u "()Ljava/util/OptionalLong;"), (0, .methodref 71 72), (0, .class_ 73), (0, .nameAndType 74 61), (0, u "java/util/OptionalLong"), (0, u "isPresent"), (0, .methodref 53 76), (0, .nameAndType 77 78), (0, u "keyName"), (0, u "()Ljava/util/Optional;"), (0, .methodref 80 81), (0, .class_ 82), (0, .nameAndType 83 61), (0, u "java/util/Optional"), (0, u "isEmpty"), (0, .methodref 80 72), (0, .methodref 80 86), (0, .nameAndType 87 88), (0, u "get"), (0, u "()Ljava/lang/Object;"), (3, u "law"), (0, u "(IIIII)Z")] 2

def k1m0 : Method := { name := "<init>", desc := "()V", sig := { parameters := [], returnType := none }, accessFlags := 2, code := none }
def k1c1 : Code := { maxStack := 2, maxLocals := 2, code := method_2_code, exceptionTable := #[], attributes := #[] }
def k1m1 : Method := { name := "pick", desc := "(I)Lcom/example/plain_keys/plainkeys/key/Refusal;", sig := { parameters := [.int], returnType := some (.object "com/example/plain_keys/plainkeys/key/Refusal") }, accessFlags := 10, code := some k1c1 }
def k1c2 : Code := { maxStack := 5, maxLocals := 11, code := code, exceptionTable := #[], attributes := #[] }
def k1m2 : Method := { name := "law", desc := "(IIIII)Z", sig := { parameters := [.int, .int, .int, .int, .int], returnType := some .boolean }, accessFlags := 9, code := some k1c2 }
/-- com/example/plain_keys/plainkeys/key/VerdictRefusedPinLaw -/
def k1 : Class := { plain "com/example/plain_keys/plainkeys/key/VerdictRefusedPinLaw" (some 0) with
  accessFlags := 49
  interfaces := #[]
  cf := some (fileOf pool1 33 #[] #[{ accessFlags := 2, nameIndex := 5, descriptorIndex := 6, attributes := #[] }, { accessFlags := 10, nameIndex := 36, descriptorIndex := 37, attributes := #[] }, { accessFlags := 9, nameIndex := 92, descriptorIndex := 93, attributes := #[] }] 49 2 #[] #[])
  fields := #[]
  methods := #[k1m0, k1m1, k1m2]
  instanceTypes := #[]
  staticTypes := #[]
  resolved := Array.replicate 96 none
  statics := none }

def pool2 : Array CpInfo := pool [(1, .class_ 2), (0, u "java/lang/constant/Constable"), (0, .class_ 4), (0, u "java/lang/Object")] 6

/-- java/lang/constant/Constable -/
def k2 : Class := { plain "java/lang/constant/Constable" (some 0) with
  accessFlags := 1537
  interfaces := #[]
  cf := some (fileOf pool2 1 #[] #[] 1537 3 #[] #[])
  fields := #[]
  methods := #[]
  instanceTypes := #[]
  staticTypes := #[]
  resolved := Array.replicate 11 none
  statics := none }

def pool3 : Array CpInfo := pool [(1, .class_ 2), (0, u "java/lang/Comparable"), (0, .class_ 4), (0, u "java/lang/Object")] 7

/-- java/lang/Comparable -/
def k3 : Class := { plain "java/lang/Comparable" (some 0) with
  accessFlags := 1537
  interfaces := #[]
  cf := some (fileOf pool3 1 #[] #[] 1537 3 #[] #[])
  fields := #[]
  methods := #[]
  instanceTypes := #[]
  staticTypes := #[]
  resolved := Array.replicate 12 none
  statics := none }

def pool4 : Array CpInfo := pool [(1, .class_ 2), (0, u "java/io/Serializable"), (0, .class_ 4), (0, u "java/lang/Object")] 2

/-- java/io/Serializable -/
def k4 : Class := { plain "java/io/Serializable" (some 0) with
  accessFlags := 1537
  interfaces := #[]
  cf := some (fileOf pool4 1 #[] #[] 1537 3 #[] #[])
  fields := #[]
  methods := #[]
  instanceTypes := #[]
  staticTypes := #[]
  resolved := Array.replicate 7 none
  statics := none }

def pool5 : Array CpInfo := pool [(2, .class_ 4), (1, u "java/lang/Enum"), (0, u "name"), (0, u "Ljava/lang/String;"), (2, u "ordinal"), (0, u "I"), (1, .class_ 14), (1, u "java/lang/Object"), (4, u "hash"), (86, .class_ 108), (1, u "java/lang/Enum$EnumDesc"), (2, .class_ 112), (0, u "java/lang/constant/Constable"), (0, .class_ 114), (0, u "java/lang/Comparable"), (0, .class_ 116), (0, u "java/io/Serializable")] 87

/-- java/lang/Enum -/
def k5 : Class := { plain "java/lang/Enum" (some 0) with
  accessFlags := 1057
  interfaces := #[2, 3, 4]
  cf := some (fileOf pool5 2 #[.nestMembers #[106]] #[] 1057 12 #[111, 113, 115] #[{ accessFlags := 18, nameIndex := 5, descriptorIndex := 6, attributes := #[] }, { accessFlags := 18, nameIndex := 9, descriptorIndex := 10, attributes := #[] }, { accessFlags := 2, nameIndex := 19, descriptorIndex := 10, attributes := #[] }])
  fields := #[{ name := "name", type := (.object "java/lang/String"), accessFlags := 18, slot := 0, constantValue := 0 }, { name := "ordinal", type := .int, accessFlags := 18, slot := 1, constantValue := 0 }, { name := "hash", type := .int, accessFlags := 2, slot := 2, constantValue := 0 }]
  methods := #[]
  instanceTypes := #[(.object "java/lang/String"), .int, .int]
  staticTypes := #[]
  resolved := Array.replicate 204 none
  statics := none }

def pool6 : Array CpInfo := pool [(1, .class_ 2), (0, u "com/example/plain_keys/plainkeys/key/Refusal"), (2, u "NO_SUCH_KEY"), (0, u "Lcom/example/plain_keys/plainkeys/key/Refusal;"), (2, u "USED_UP"), (2, u "NOT_YET"), (2, u "EXPIRED"), (2, u "REVOKED"), (2, u "OUTSIDE"), (2, u "UNCHECKABLE"), (2, u "$VALUES"), (0, u "[Lcom/example/plain_keys/plainkeys/key/Refusal;"), (6, .class_ 37), (1, u "java/lang/Enum"), (8, u "status"), (0, u "I"), (2, u "reason"), (0, u "Ljava/lang/String;"), (2, u "message")] 56

/-- com/example/plain_keys/plainkeys/key/Refusal -/
def k6 : Class := { plain "com/example/plain_keys/plainkeys/key/Refusal" (some 5) with
  accessFlags := 16433
  interfaces := #[]
  cf := some (fileOf pool6 1 #[] #[] 16433 35 #[] #[{ accessFlags := 16409, nameIndex := 5, descriptorIndex := 6, attributes := #[] }, { accessFlags := 16409, nameIndex := 9, descriptorIndex := 6, attributes := #[] }, { accessFlags := 16409, nameIndex := 12, descriptorIndex := 6, attributes := #[] }, { accessFlags := 16409, nameIndex := 15, descriptorIndex := 6, attributes := #[] }, { accessFlags := 16409, nameIndex := 18, descriptorIndex := 6, attributes := #[] }, { accessFlags := 16409, nameIndex := 21, descriptorIndex := 6, attributes := #[] }, { accessFlags := 16409, nameIndex := 24, descriptorIndex := 6, attributes := #[] }, { accessFlags := 18, nameIndex := 46, descriptorIndex := 47, attributes := #[] }, { accessFlags := 18, nameIndex := 50, descriptorIndex := 51, attributes := #[] }, { accessFlags := 18, nameIndex := 54, descriptorIndex := 51, attributes := #[] }, { accessFlags := 4122, nameIndex := 27, descriptorIndex := 28, attributes := #[] }])
  fields := #[{ name := "NO_SUCH_KEY", type := (.object "com/example/plain_keys/plainkeys/key/Refusal"), accessFlags := 16409, slot := 0, constantValue := 0 }, { name := "USED_UP", type := (.object "com/example/plain_keys/plainkeys/key/Refusal"), accessFlags := 16409, slot := 1, constantValue := 0 }, { name := "NOT_YET", type := (.object "com/example/plain_keys/plainkeys/key/Refusal"), accessFlags := 16409, slot := 2, constantValue := 0 }, { name := "EXPIRED", type := (.object "com/example/plain_keys/plainkeys/key/Refusal"), accessFlags := 16409, slot := 3, constantValue := 0 }, { name := "REVOKED", type := (.object "com/example/plain_keys/plainkeys/key/Refusal"), accessFlags := 16409, slot := 4, constantValue := 0 }, { name := "OUTSIDE", type := (.object "com/example/plain_keys/plainkeys/key/Refusal"), accessFlags := 16409, slot := 5, constantValue := 0 }, { name := "UNCHECKABLE", type := (.object "com/example/plain_keys/plainkeys/key/Refusal"), accessFlags := 16409, slot := 6, constantValue := 0 }, { name := "status", type := .int, accessFlags := 18, slot := 3, constantValue := 0 }, { name := "reason", type := (.object "java/lang/String"), accessFlags := 18, slot := 4, constantValue := 0 }, { name := "message", type := (.object "java/lang/String"), accessFlags := 18, slot := 5, constantValue := 0 }, { name := "$VALUES", type := (.array (.object "com/example/plain_keys/plainkeys/key/Refusal")), accessFlags := 4122, slot := 7, constantValue := 0 }]
  methods := #[]
  instanceTypes := #[(.object "java/lang/String"), .int, .int, .int, (.object "java/lang/String"), (.object "java/lang/String")]
  staticTypes := #[(.object "com/example/plain_keys/plainkeys/key/Refusal"), (.object "com/example/plain_keys/plainkeys/key/Refusal"), (.object "com/example/plain_keys/plainkeys/key/Refusal"), (.object "com/example/plain_keys/plainkeys/key/Refusal"), (.object "com/example/plain_keys/plainkeys/key/Refusal"), (.object "com/example/plain_keys/plainkeys/key/Refusal"), (.object "com/example/plain_keys/plainkeys/key/Refusal"), (.array (.object "com/example/plain_keys/plainkeys/key/Refusal"))]
  resolved := Array.replicate 111 none
  statics := some 0 }

def pool7 : Array CpInfo := pool [(2, .class_ 4), (1, u "java/lang/CharSequence"), (42, .class_ 48), (0, u "java/lang/CharSequence$1CodePointIterator"), (10, .class_ 60), (0, u "java/lang/CharSequence$1CharIterator"), (5, .class_ 67), (0, u "java/lang/Object")] 63

/-- java/lang/CharSequence -/
def k7 : Class := { plain "java/lang/CharSequence" (some 0) with
  accessFlags := 1537
  interfaces := #[]
  cf := some (fileOf pool7 2 #[.nestMembers #[47, 59]] #[] 1537 66 #[] #[])
  fields := #[]
  methods := #[]
  instanceTypes := #[]
  staticTypes := #[]
  resolved := Array.replicate 131 none
  statics := none }

def pool8 : Array CpInfo := pool [(1, .class_ 2), (0, u "java/lang/constant/ConstantDesc"), (0, .class_ 4), (0, u "java/lang/Object")] 32

/-- java/lang/constant/ConstantDesc -/
def k8 : Class := { plain "java/lang/constant/ConstantDesc" (some 0) with
  accessFlags := 1537
  interfaces := #[]
  cf := some (fileOf pool8 1 #[] #[] 1537 3 #[] #[])
  fields := #[]
  methods := #[]
  instanceTypes := #[]
  staticTypes := #[]
  resolved := Array.replicate 37 none
  statics := none }

def pool9 : Array CpInfo := pool [(1, .methodref 2 3), (0, .class_ 4), (0, .nameAndType 5 6), (0, u "java/lang/Object"), (0, u "<init>"), (0, u "()V"), (2, .fieldref 10 11), (0, .class_ 12), (0, .nameAndType 13 14), (0, u "java/lang/String"), (0, u "value"), (0, u "[B"), (0, .fieldref 10 16), (0, .nameAndType 17 18), (0, u "coder"), (0, u "B"), (2, u "hash"), (0, u "I"), (2, u "hashIsZero"), (0, u "Z"), (0, .methodref 10 28), (0, .nameAndType 5 29), (0, u "([CIILjava/lang/Void;)V"), (8, .fieldref 10 39), (0, .nameAndType 40 26), (0, u "COMPACT_STRINGS"), (1, .class_ 44), (1, u "java/lang/StringUTF16"), (0, u "compress"), (1, .methodref 42 48), (0, .nameAndType 49 50), (0, u "coderFromArrayLen"), (0, u "([BI)B"), (2, u "toBytes"), (53, .class_ 109), (1, u "java/lang/StringLatin1"), (67, .methodref 42 178), (0, .nameAndType 45 179), (0, u "([CII)[B"), (29, .methodref 10 210), (0, .nameAndType 5 211), (0, u "([BB)V"), (157, u "(C)Z"), (205, .class_ 576), (0, u "java/lang/CharSequence"), (22, u "CASE_INSENSITIVE_ORDER"), (0, u "Ljava/util/Comparator;"), (181, u "valueOf"), (0, u "(C)Ljava/lang/String;"), (226, u "([C)V"), (4, .methodref 107 1016), (0, .nameAndType 1017 369), (0, u "canEncode"), (0, .methodref 107 1019), (0, .nameAndType 53 1020), (0, u "(C)[B"), (80, u "serialPersistentFields"), (0, u "[Ljava/io/ObjectStreamField;"), (0, .class_ 1104), (0, u "java/lang/String$CaseInsensitiveComparator"), (1, .class_ 1107), (0, u "java/io/Serializable"), (0, .class_ 1109), (0, u "java/lang/Comparable"), (0, .class_ 1111), (0, u "java/lang/constant/Constable"), (0, .class_ 1113), (0, u "java/lang/constant/ConstantDesc"), (2, u "serialVersionUID"), (0, u "J"), (3, u "REPL"), (0, u "C"), (2, u "LATIN1"), (1, u "UTF16")] 323

def k9m0 : Method := { name := "<init>", desc := "()V", sig := { parameters := [], returnType := none }, accessFlags := 1, code := none }
def k9c1 : Code := { maxStack := 5, maxLocals := 2, code := jdk_42_method_3_code, exceptionTable := #[], attributes := #[] }
def k9m1 : Method := { name := "<init>", desc := "([C)V", sig := { parameters := [(.array .char)], returnType := none }, accessFlags := 1, code := some k9c1 }
def k9c2 : Code := { maxStack := 4, maxLocals := 1, code := jdk_42_method_139_code, exceptionTable := #[], attributes := #[] }
def k9m2 : Method := { name := "valueOf", desc := "(C)Ljava/lang/String;", sig := { parameters := [.char], returnType := some (.object "java/lang/String") }, accessFlags := 9, code := some k9c2 }
def k9c3 : Code := { maxStack := 4, maxLocals := 6, code := jdk_42_method_149_code, exceptionTable := #[], attributes := #[] }
def k9m3 : Method := { name := "<init>", desc := "([CIILjava/lang/Void;)V", sig := { parameters := [(.array .char), .int, .int, (.object "java/lang/Void")], returnType := none }, accessFlags := 2, code := some k9c3 }
def k9c4 : Code := { maxStack := 2, maxLocals := 3, code := jdk_42_method_151_code, exceptionTable := #[], attributes := #[] }
def k9m4 : Method := { name := "<init>", desc := "([BB)V", sig := { parameters := [(.array .byte), .byte], returnType := none }, accessFlags := 0, code := some k9c4 }
/-- java/lang/String -/
def k9 : Class := { plain "java/lang/String" (some 0) with
  accessFlags := 49
  interfaces := #[4, 3, 7, 2, 8]
  cf := some (fileOf pool9 10 #[.nestMembers #[1103]] #[{ accessFlags := 1, nameIndex := 5, descriptorIndex := 6, attributes := #[] }, { accessFlags := 1, nameIndex := 5, descriptorIndex := 1010, attributes := #[] }, { accessFlags := 9, nameIndex := 782, descriptorIndex := 783, attributes := #[] }, { accessFlags := 2, nameIndex := 5, descriptorIndex := 29, attributes := #[] }, { accessFlags := 0, nameIndex := 5, descriptorIndex := 211, attributes := #[] }] 49 2 #[1106, 1108, 575, 1110, 1112] #[{ accessFlags := 18, nameIndex := 13, descriptorIndex := 14, attributes := #[] }, { accessFlags := 18, nameIndex := 17, descriptorIndex := 18, attributes := #[] }, { accessFlags := 2, nameIndex := 21, descriptorIndex := 22, attributes := #[] }, { accessFlags := 2, nameIndex := 25, descriptorIndex := 26, attributes := #[] }, { accessFlags := 26, nameIndex := 1116, descriptorIndex := 1117, attributes := #[] }, { accessFlags := 24, nameIndex := 40, descriptorIndex := 26, attributes := #[] }, { accessFlags := 26, nameIndex := 1101, descriptorIndex := 1102, attributes := #[] }, { accessFlags := 26, nameIndex := 1121, descriptorIndex := 1122, attributes := #[] }, { accessFlags := 25, nameIndex := 599, descriptorIndex := 600, attributes := #[] }, { accessFlags := 24, nameIndex := 1125, descriptorIndex := 18, attributes := #[] }, { accessFlags := 24, nameIndex := 1127, descriptorIndex := 18, attributes := #[] }])
  fields := #[{ name := "value", type := (.array .byte), accessFlags := 18, slot := 0, constantValue := 0 }, { name := "coder", type := .byte, accessFlags := 18, slot := 1, constantValue := 0 }, { name := "hash", type := .int, accessFlags := 2, slot := 2, constantValue := 0 }, { name := "hashIsZero", type := .boolean, accessFlags := 2, slot := 3, constantValue := 0 }, { name := "serialVersionUID", type := .long, accessFlags := 26, slot := 0, constantValue := 0 }, { name := "COMPACT_STRINGS", type := .boolean, accessFlags := 24, slot := 1, constantValue := 0 }, { name := "serialPersistentFields", type := (.array (.object "java/io/ObjectStreamField")), accessFlags := 26, slot := 2, constantValue := 0 }, { name := "REPL", type := .char, accessFlags := 26, slot := 3, constantValue := 0 }, { name := "CASE_INSENSITIVE_ORDER", type := (.object "java/util/Comparator"), accessFlags := 25, slot := 4, constantValue := 0 }, { name := "LATIN1", type := .byte, accessFlags := 24, slot := 5, constantValue := 0 }, { name := "UTF16", type := .byte, accessFlags := 24, slot := 6, constantValue := 0 }]
  methods := #[k9m0, k9m1, k9m2, k9m3, k9m4]
  instanceTypes := #[(.array .byte), .byte, .int, .boolean]
  staticTypes := #[.long, .boolean, (.array (.object "java/io/ObjectStreamField")), .char, (.object "java/util/Comparator"), .byte, .byte]
  resolved := Array.replicate 1451 none
  statics := some 1 }

def pool10 : Array CpInfo := pool [(6, .class_ 8), (1, u "java/lang/Object"), (0, u "<init>"), (0, u "()V"), (1, .class_ 14), (1, u "java/lang/StringUTF16"), (31, u "$assertionsDisabled"), (0, u "Z"), (13, u "HI_BYTE_SHIFT"), (0, u "I"), (2, u "LO_BYTE_SHIFT"), (49, .methodref 12 116), (0, .nameAndType 117 118), (0, u "compress"), (0, u "([CI[BII)I"), (3, u "([CII)[B"), (138, u "coderFromArrayLen"), (0, u "([BI)B"), (106, .class_ 371), (1, u "java/lang/StringUTF16$LinesSpliterator"), (58, u "MAX_LENGTH"), (196, .class_ 628), (0, u "java/lang/StringUTF16$CodePointsSpliterator"), (0, .class_ 630), (0, u "java/lang/StringUTF16$CharsSpliterator")] 4

def k10m0 : Method := { name := "<init>", desc := "()V", sig := { parameters := [], returnType := none }, accessFlags := 0, code := none }
def k10c1 : Code := { maxStack := 2, maxLocals := 2, code := jdk_52_method_15_code, exceptionTable := #[], attributes := #[] }
def k10m1 : Method := { name := "coderFromArrayLen", desc := "([BI)B", sig := { parameters := [(.array .byte), .int], returnType := some .byte }, accessFlags := 8, code := some k10c1 }
def k10c2 : Code := { maxStack := 5, maxLocals := 6, code := jdk_52_method_16_code, exceptionTable := #[], attributes := #[] }
def k10m2 : Method := { name := "compress", desc := "([CII)[B", sig := { parameters := [(.array .char), .int, .int], returnType := some (.array .byte) }, accessFlags := 9, code := some k10c2 }
def k10c3 : Code := { maxStack := 3, maxLocals := 7, code := jdk_52_method_21_code, exceptionTable := #[], attributes := #[] }
def k10m3 : Method := { name := "compress", desc := "([CI[BII)I", sig := { parameters := [(.array .char), .int, (.array .byte), .int, .int], returnType := some .int }, accessFlags := 9, code := some k10c3 }
/-- java/lang/StringUTF16 -/
def k10 : Class := { plain "java/lang/StringUTF16" (some 0) with
  accessFlags := 48
  interfaces := #[]
  cf := some (fileOf pool10 12 #[.nestMembers #[627, 629, 369]] #[{ accessFlags := 0, nameIndex := 9, descriptorIndex := 10, attributes := #[] }, { accessFlags := 8, nameIndex := 261, descriptorIndex := 262, attributes := #[] }, { accessFlags := 9, nameIndex := 117, descriptorIndex := 122, attributes := #[] }, { accessFlags := 9, nameIndex := 117, descriptorIndex := 118, attributes := #[] }] 48 6 #[] #[{ accessFlags := 26, nameIndex := 61, descriptorIndex := 62, attributes := #[] }, { accessFlags := 26, nameIndex := 65, descriptorIndex := 62, attributes := #[] }, { accessFlags := 24, nameIndex := 430, descriptorIndex := 62, attributes := #[] }, { accessFlags := 4120, nameIndex := 46, descriptorIndex := 47, attributes := #[] }])
  fields := #[{ name := "HI_BYTE_SHIFT", type := .int, accessFlags := 26, slot := 0, constantValue := 0 }, { name := "LO_BYTE_SHIFT", type := .int, accessFlags := 26, slot := 1, constantValue := 0 }, { name := "MAX_LENGTH", type := .int, accessFlags := 24, slot := 2, constantValue := 0 }, { name := "$assertionsDisabled", type := .boolean, accessFlags := 4120, slot := 3, constantValue := 0 }]
  methods := #[k10m0, k10m1, k10m2, k10m3]
  instanceTypes := #[]
  staticTypes := #[.int, .int, .int, .boolean]
  resolved := Array.replicate 635 none
  statics := none }

def pool11 : Array CpInfo := pool [(4, .class_ 6), (1, u "java/lang/Object"), (0, u "<init>"), (0, u "()V"), (5, .class_ 16), (1, u "java/lang/StringLatin1"), (73, u "canEncode"), (14, u "(C)Z"), (15, u "$assertionsDisabled"), (0, u "Z"), (98, .class_ 223), (1, u "java/lang/StringLatin1$LinesSpliterator"), (156, u "toBytes"), (1, u "(C)[B"), (7, .class_ 391), (0, u "java/lang/StringLatin1$CharsSpliterator")] 3

def k11m0 : Method := { name := "<init>", desc := "()V", sig := { parameters := [], returnType := none }, accessFlags := 0, code := none }
def k11c1 : Code := { maxStack := 2, maxLocals := 1, code := jdk_43_method_3_code, exceptionTable := #[], attributes := #[] }
def k11m1 : Method := { name := "canEncode", desc := "(C)Z", sig := { parameters := [.char], returnType := some .boolean }, accessFlags := 9, code := some k11c1 }
def k11c2 : Code := { maxStack := 4, maxLocals := 1, code := jdk_43_method_46_code, exceptionTable := #[], attributes := #[] }
def k11m2 : Method := { name := "toBytes", desc := "(C)[B", sig := { parameters := [.char], returnType := some (.array .byte) }, accessFlags := 9, code := some k11c2 }
/-- java/lang/StringLatin1 -/
def k11 : Class := { plain "java/lang/StringLatin1" (some 0) with
  accessFlags := 48
  interfaces := #[]
  cf := some (fileOf pool11 14 #[.nestMembers #[390, 221]] #[{ accessFlags := 0, nameIndex := 7, descriptorIndex := 8, attributes := #[] }, { accessFlags := 9, nameIndex := 90, descriptorIndex := 105, attributes := #[] }, { accessFlags := 9, nameIndex := 380, descriptorIndex := 382, attributes := #[] }] 48 4 #[] #[{ accessFlags := 4120, nameIndex := 121, descriptorIndex := 122, attributes := #[] }])
  fields := #[{ name := "$assertionsDisabled", type := .boolean, accessFlags := 4120, slot := 0, constantValue := 0 }]
  methods := #[k11m0, k11m1, k11m2]
  instanceTypes := #[]
  staticTypes := #[.boolean]
  resolved := Array.replicate 395 none
  statics := none }

def pool12 : Array CpInfo := pool [(1, .methodref 2 3), (0, .class_ 4), (0, .nameAndType 5 6), (0, u "java/lang/Object"), (0, u "<init>"), (0, u "()V"), (0, .class_ 8), (0, u "java/lang/Record")] 13

def k12c0 : Code := { maxStack := 1, maxLocals := 1, code := jdk_30_method_1_code, exceptionTable := #[], attributes := #[] }
def k12m0 : Method := { name := "<init>", desc := "()V", sig := { parameters := [], returnType := none }, accessFlags := 4, code := some k12c0 }
/-- java/lang/Record -/
def k12 : Class := { plain "java/lang/Record" (some 0) with
  accessFlags := 1057
  interfaces := #[]
  cf := some (fileOf pool12 7 #[] #[{ accessFlags := 4, nameIndex := 5, descriptorIndex := 6, attributes := #[] }] 1057 2 #[] #[])
  fields := #[]
  methods := #[k12m0]
  instanceTypes := #[]
  staticTypes := #[]
  resolved := Array.replicate 22 none
  statics := none }

def pool13 : Array CpInfo := pool [(1, .methodref 2 3), (0, .class_ 4), (0, .nameAndType 5 6), (0, u "java/lang/Record"), (0, u "<init>"), (0, u "()V"), (0, .fieldref 8 9), (0, .class_ 10), (0, .nameAndType 11 12), (0, u "com/example/plain_keys/plainkeys/key/KeyName"), (0, u "site"), (0, u "Ljava/lang/String;"), (0, .fieldref 8 14), (0, .nameAndType 15 12), (0, u "identifier"), (0, .fieldref 8 17), (0, .nameAndType 18 12), (0, u "sig"), (31, u "(Ljava/lang/String;Ljava/lang/String;Ljava/lang/String;)V"), (12, u "SIG_LENGTH"), (0, u "I")] 30

def k13c0 : Code := { maxStack := 2, maxLocals := 4, code := prog_14_method_1_code, exceptionTable := #[], attributes := #[] }
def k13m0 : Method := { name := "<init>", desc := "(Ljava/lang/String;Ljava/lang/String;Ljava/lang/String;)V", sig := { parameters := [(.object "java/lang/String"), (.object "java/lang/String"), (.object "java/lang/String")], returnType := none }, accessFlags := 1, code := some k13c0 }
/-- com/example/plain_keys/plainkeys/key/KeyName -/
def k13 : Class := { plain "com/example/plain_keys/plainkeys/key/KeyName" (some 12) with
  accessFlags := 49
  interfaces := #[]
  cf := some (fileOf pool13 8 #[] #[{ accessFlags := 1, nameIndex := 5, descriptorIndex := 50, attributes := #[] }] 49 2 #[] #[{ accessFlags := 18, nameIndex := 11, descriptorIndex := 12, attributes := #[] }, { accessFlags := 18, nameIndex := 15, descriptorIndex := 12, attributes := #[] }, { accessFlags := 18, nameIndex := 18, descriptorIndex := 12, attributes := #[] }, { accessFlags := 25, nameIndex := 63, descriptorIndex := 64, attributes := #[] }])
  fields := #[{ name := "site", type := (.object "java/lang/String"), accessFlags := 18, slot := 0, constantValue := 0 }, { name := "identifier", type := (.object "java/lang/String"), accessFlags := 18, slot := 1, constantValue := 0 }, { name := "sig", type := (.object "java/lang/String"), accessFlags := 18, slot := 2, constantValue := 0 }, { name := "SIG_LENGTH", type := .int, accessFlags := 25, slot := 0, constantValue := 0 }]
  methods := #[k13m0]
  instanceTypes := #[(.object "java/lang/String"), (.object "java/lang/String"), (.object "java/lang/String")]
  staticTypes := #[.int]
  resolved := Array.replicate 95 none
  statics := none }

def pool14 : Array CpInfo := pool [(1, .methodref 2 3), (0, .class_ 4), (0, .nameAndType 5 6), (0, u "java/lang/Object"), (0, u "<init>"), (0, u "()V"), (0, .fieldref 8 9), (0, .class_ 10), (0, .nameAndType 11 12), (0, u "com/example/plain_keys/plainkeys/key/Verdict"), (0, u "key"), (0, u "Lcom/example/plain_keys/plainkeys/key/Key;"), (0, .fieldref 8 14), (0, .nameAndType 15 16), (0, u "name"), (0, u "Lcom/example/plain_keys/plainkeys/key/KeyName;"), (0, .fieldref 8 18), (0, .nameAndType 19 20), (0, u "usesLeft"), (0, u "J"), (0, .fieldref 8 22), (0, .nameAndType 23 24), (0, u "until"), (0, u "Ljava/time/Instant;"), (0, .fieldref 8 26), (0, .nameAndType 27 28), (0, u "refusal"), (0, u "Lcom/example/plain_keys/plainkeys/key/Refusal;"), (0, .fieldref 8 30), (0, .nameAndType 31 20), (0, u "entry"), (0, .long 18446744073709551615), (1, .methodref 8 35), (0, .nameAndType 5 36), (0, u "(Lcom/example/plain_keys/plainkeys/key/Key;Lcom/example/plain_keys/plainkeys/key/KeyName;JLjava/time/Instant;Lcom/example/plain_keys/plainkeys/key/Refusal;J)V"), (10, u "refused"), (0, u "(Lcom/example/plain_keys/plainkeys/key/Refusal;Lcom/example/plain_keys/plainkeys/key/KeyName;)Lcom/example/plain_keys/plainkeys/key/Verdict;"), (0, .methodref 8 50), (0, .nameAndType 51 52), (0, u "opens"), (0, u "()Z"), (15, .methodref 69 70), (0, .class_ 71), (0, .nameAndType 72 73), (0, u "java/util/Optional"), (0, u "ofNullable"), (0, u "(Ljava/lang/Object;)Ljava/util/Optional;"), (0, .methodref 75 76), (0, .class_ 77), (0, .nameAndType 78 79), (0, u "java/util/OptionalLong"), (0, u "empty"), (0, u "()Ljava/util/OptionalLong;"), (26, u "NO_ENTRY"), (9, u "keyName"), (0, u "()Ljava/util/Optional;"), (3, u "()Lcom/example/plain_keys/plainkeys/key/Refusal;")] 23

def k14c0 : Code := { maxStack := 3, maxLocals := 9, code := prog_24_method_1_code, exceptionTable := #[], attributes := #[] }
def k14m0 : Method := { name := "<init>", desc := "(Lcom/example/plain_keys/plainkeys/key/Key;Lcom/example/plain_keys/plainkeys/key/KeyName;JLjava/time/Instant;Lcom/example/plain_keys/plainkeys/key/Refusal;J)V", sig := { parameters := [(.object "com/example/plain_keys/plainkeys/key/Key"), (.object "com/example/plain_keys/plainkeys/key/KeyName"), .long, (.object "java/time/Instant"), (.object "com/example/plain_keys/plainkeys/key/Refusal"), .long], returnType := none }, accessFlags := 2, code := some k14c0 }
def k14c1 : Code := { maxStack := 10, maxLocals := 2, code := prog_24_method_5_code, exceptionTable := #[], attributes := #[] }
def k14m1 : Method := { name := "refused", desc := "(Lcom/example/plain_keys/plainkeys/key/Refusal;Lcom/example/plain_keys/plainkeys/key/KeyName;)Lcom/example/plain_keys/plainkeys/key/Verdict;", sig := { parameters := [(.object "com/example/plain_keys/plainkeys/key/Refusal"), (.object "com/example/plain_keys/plainkeys/key/KeyName")], returnType := some (.object "com/example/plain_keys/plainkeys/key/Verdict") }, accessFlags := 8, code := some k14c1 }
def k14c2 : Code := { maxStack := 1, maxLocals := 1, code := prog_24_method_6_code, exceptionTable := #[], attributes := #[] }
def k14m2 : Method := { name := "opens", desc := "()Z", sig := { parameters := [], returnType := some .boolean }, accessFlags := 1, code := some k14c2 }
def k14c3 : Code := { maxStack := 1, maxLocals := 1, code := prog_24_method_9_code, exceptionTable := #[], attributes := #[] }
def k14m3 : Method := { name := "keyName", desc := "()Ljava/util/Optional;", sig := { parameters := [], returnType := some (.object "java/util/Optional") }, accessFlags := 1, code := some k14c3 }
def k14c4 : Code := { maxStack := 4, maxLocals := 1, code := prog_24_method_10_code, exceptionTable := #[], attributes := #[] }
def k14m4 : Method := { name := "entry", desc := "()Ljava/util/OptionalLong;", sig := { parameters := [], returnType := some (.object "java/util/OptionalLong") }, accessFlags := 1, code := some k14c4 }
def k14c5 : Code := { maxStack := 3, maxLocals := 1, code := prog_24_method_13_code, exceptionTable := #[], attributes := #[] }
def k14m5 : Method := { name := "refusal", desc := "()Lcom/example/plain_keys/plainkeys/key/Refusal;", sig := { parameters := [], returnType := some (.object "com/example/plain_keys/plainkeys/key/Refusal") }, accessFlags := 1, code := some k14c5 }
/-- com/example/plain_keys/plainkeys/key/Verdict -/
def k14 : Class := { plain "com/example/plain_keys/plainkeys/key/Verdict" (some 0) with
  accessFlags := 49
  interfaces := #[]
  cf := some (fileOf pool14 8 #[] #[{ accessFlags := 2, nameIndex := 5, descriptorIndex := 36, attributes := #[] }, { accessFlags := 8, nameIndex := 47, descriptorIndex := 48, attributes := #[] }, { accessFlags := 1, nameIndex := 51, descriptorIndex := 52, attributes := #[] }, { accessFlags := 1, nameIndex := 116, descriptorIndex := 117, attributes := #[] }, { accessFlags := 1, nameIndex := 31, descriptorIndex := 79, attributes := #[] }, { accessFlags := 1, nameIndex := 27, descriptorIndex := 121, attributes := #[] }] 49 2 #[] #[{ accessFlags := 26, nameIndex := 106, descriptorIndex := 20, attributes := #[] }, { accessFlags := 18, nameIndex := 11, descriptorIndex := 12, attributes := #[] }, { accessFlags := 18, nameIndex := 15, descriptorIndex := 16, attributes := #[] }, { accessFlags := 18, nameIndex := 19, descriptorIndex := 20, attributes := #[] }, { accessFlags := 18, nameIndex := 23, descriptorIndex := 24, attributes := #[] }, { accessFlags := 18, nameIndex := 27, descriptorIndex := 28, attributes := #[] }, { accessFlags := 18, nameIndex := 31, descriptorIndex := 20, attributes := #[] }])
  fields := #[{ name := "NO_ENTRY", type := .long, accessFlags := 26, slot := 0, constantValue := 0 }, { name := "key", type := (.object "com/example/plain_keys/plainkeys/key/Key"), accessFlags := 18, slot := 0, constantValue := 0 }, { name := "name", type := (.object "com/example/plain_keys/plainkeys/key/KeyName"), accessFlags := 18, slot := 1, constantValue := 0 }, { name := "usesLeft", type := .long, accessFlags := 18, slot := 2, constantValue := 0 }, { name := "until", type := (.object "java/time/Instant"), accessFlags := 18, slot := 3, constantValue := 0 }, { name := "refusal", type := (.object "com/example/plain_keys/plainkeys/key/Refusal"), accessFlags := 18, slot := 4, constantValue := 0 }, { name := "entry", type := .long, accessFlags := 18, slot := 5, constantValue := 0 }]
  methods := #[k14m0, k14m1, k14m2, k14m3, k14m4, k14m5]
  instanceTypes := #[(.object "com/example/plain_keys/plainkeys/key/Key"), (.object "com/example/plain_keys/plainkeys/key/KeyName"), .long, (.object "java/time/Instant"), (.object "com/example/plain_keys/plainkeys/key/Refusal"), .long]
  staticTypes := #[.long]
  resolved := Array.replicate 145 none
  statics := none }

def pool15 : Array CpInfo := pool [(2, .class_ 4), (1, u "java/lang/Object"), (0, u "<init>"), (0, u "()V"), (0, .fieldref 8 9), (0, .class_ 10), (0, .nameAndType 11 12), (0, u "java/util/OptionalLong"), (0, u "isPresent"), (0, u "Z"), (2, u "value"), (0, u "J"), (0, .fieldref 8 18), (0, .nameAndType 19 20), (0, u "EMPTY"), (0, u "Ljava/util/OptionalLong;"), (28, u "empty"), (46, u "()Ljava/util/OptionalLong;"), (2, u "()Z")] 38

def k15m0 : Method := { name := "<init>", desc := "()V", sig := { parameters := [], returnType := none }, accessFlags := 2, code := none }
def k15c1 : Code := { maxStack := 1, maxLocals := 0, code := jdk_2650_method_2_code, exceptionTable := #[], attributes := #[] }
def k15m1 : Method := { name := "empty", desc := "()Ljava/util/OptionalLong;", sig := { parameters := [], returnType := some (.object "java/util/OptionalLong") }, accessFlags := 9, code := some k15c1 }
def k15c2 : Code := { maxStack := 1, maxLocals := 1, code := jdk_2650_method_6_code, exceptionTable := #[], attributes := #[] }
def k15m2 : Method := { name := "isPresent", desc := "()Z", sig := { parameters := [], returnType := some .boolean }, accessFlags := 1, code := some k15c2 }
/-- java/util/OptionalLong -/
def k15 : Class := { plain "java/util/OptionalLong" (some 0) with
  accessFlags := 49
  interfaces := #[]
  cf := some (fileOf pool15 8 #[] #[{ accessFlags := 2, nameIndex := 5, descriptorIndex := 6, attributes := #[] }, { accessFlags := 9, nameIndex := 49, descriptorIndex := 96, attributes := #[] }, { accessFlags := 1, nameIndex := 11, descriptorIndex := 99, attributes := #[] }] 49 2 #[] #[{ accessFlags := 26, nameIndex := 19, descriptorIndex := 20, attributes := #[] }, { accessFlags := 18, nameIndex := 11, descriptorIndex := 12, attributes := #[] }, { accessFlags := 18, nameIndex := 15, descriptorIndex := 16, attributes := #[] }])
  fields := #[{ name := "EMPTY", type := (.object "java/util/OptionalLong"), accessFlags := 26, slot := 0, constantValue := 0 }, { name := "isPresent", type := .boolean, accessFlags := 18, slot := 0, constantValue := 0 }, { name := "value", type := .long, accessFlags := 18, slot := 1, constantValue := 0 }]
  methods := #[k15m0, k15m1, k15m2]
  instanceTypes := #[.boolean, .long]
  staticTypes := #[(.object "java/util/OptionalLong")]
  resolved := Array.replicate 138 none
  statics := some 2 }

def pool16 : Array CpInfo := pool [(1, .fieldref 2 3), (0, .class_ 4), (0, .nameAndType 5 6), (0, u "java/util/Optional"), (0, u "EMPTY"), (0, u "Ljava/util/Optional;"), (0, .methodref 8 9), (0, .class_ 10), (0, .nameAndType 11 12), (0, u "java/lang/Object"), (0, u "<init>"), (0, u "()V"), (0, .fieldref 2 14), (0, .nameAndType 15 16), (0, u "value"), (0, u "Ljava/lang/Object;"), (6, .methodref 2 24), (0, .nameAndType 11 25), (0, u "(Ljava/lang/Object;)V"), (19, u "isEmpty"), (0, u "()Z"), (17, u "ofNullable"), (0, u "(Ljava/lang/Object;)Ljava/util/Optional;"), (2, u "isPresent"), (4, u "get"), (0, u "()Ljava/lang/Object;")] 112

def k16c0 : Code := { maxStack := 2, maxLocals := 2, code := jdk_32_method_2_code, exceptionTable := #[], attributes := #[] }
def k16m0 : Method := { name := "<init>", desc := "(Ljava/lang/Object;)V", sig := { parameters := [(.object "java/lang/Object")], returnType := none }, accessFlags := 2, code := some k16c0 }
def k16c1 : Code := { maxStack := 3, maxLocals := 1, code := jdk_32_method_4_code, exceptionTable := #[], attributes := #[] }
def k16m1 : Method := { name := "ofNullable", desc := "(Ljava/lang/Object;)Ljava/util/Optional;", sig := { parameters := [(.object "java/lang/Object")], returnType := some (.object "java/util/Optional") }, accessFlags := 9, code := some k16c1 }
def k16c2 : Code := { maxStack := 3, maxLocals := 1, code := jdk_32_method_5_code, exceptionTable := #[], attributes := #[] }
def k16m2 : Method := { name := "get", desc := "()Ljava/lang/Object;", sig := { parameters := [], returnType := some (.object "java/lang/Object") }, accessFlags := 1, code := some k16c2 }
def k16c3 : Code := { maxStack := 1, maxLocals := 1, code := jdk_32_method_6_code, exceptionTable := #[], attributes := #[] }
def k16m3 : Method := { name := "isPresent", desc := "()Z", sig := { parameters := [], returnType := some .boolean }, accessFlags := 1, code := some k16c3 }
def k16c4 : Code := { maxStack := 1, maxLocals := 1, code := jdk_32_method_7_code, exceptionTable := #[], attributes := #[] }
def k16m4 : Method := { name := "isEmpty", desc := "()Z", sig := { parameters := [], returnType := some .boolean }, accessFlags := 1, code := some k16c4 }
/-- java/util/Optional -/
def k16 : Class := { plain "java/util/Optional" (some 0) with
  accessFlags := 49
  interfaces := #[]
  cf := some (fileOf pool16 2 #[] #[{ accessFlags := 2, nameIndex := 11, descriptorIndex := 25, attributes := #[] }, { accessFlags := 9, nameIndex := 64, descriptorIndex := 65, attributes := #[] }, { accessFlags := 1, nameIndex := 73, descriptorIndex := 74, attributes := #[] }, { accessFlags := 1, nameIndex := 68, descriptorIndex := 46, attributes := #[] }, { accessFlags := 1, nameIndex := 45, descriptorIndex := 46, attributes := #[] }] 49 8 #[] #[{ accessFlags := 26, nameIndex := 5, descriptorIndex := 6, attributes := #[] }, { accessFlags := 18, nameIndex := 15, descriptorIndex := 16, attributes := #[] }])
  fields := #[{ name := "EMPTY", type := (.object "java/util/Optional"), accessFlags := 26, slot := 0, constantValue := 0 }, { name := "value", type := (.object "java/lang/Object"), accessFlags := 18, slot := 0, constantValue := 0 }]
  methods := #[k16m0, k16m1, k16m2, k16m3, k16m4]
  instanceTypes := #[(.object "java/lang/Object")]
  staticTypes := #[(.object "java/util/Optional")]
  resolved := Array.replicate 187 none
  statics := some 3 }

def pool17 : Array CpInfo := pool [(2, .class_ 4), (1, u "java/lang/Object"), (0, u "<init>"), (0, u "()V"), (17, .class_ 26), (1, u "jdk/internal/util/Preconditions"), (28, .class_ 56), (0, u "jdk/internal/util/Preconditions$4"), (57, .class_ 115), (0, u "jdk/internal/util/Preconditions$1"), (7, u "SIOOBE_FORMATTER"), (0, u "Ljava/util/function/BiFunction;"), (0, .class_ 126), (0, u "jdk/internal/util/Preconditions$2"), (3, u "AIOOBE_FORMATTER"), (0, .class_ 132), (0, u "jdk/internal/util/Preconditions$3"), (3, u "IOOBE_FORMATTER")] 57

def k17m0 : Method := { name := "<init>", desc := "()V", sig := { parameters := [], returnType := none }, accessFlags := 1, code := none }
/-- jdk/internal/util/Preconditions -/
def k17 : Class := { plain "jdk/internal/util/Preconditions" (some 0) with
  accessFlags := 33
  interfaces := #[]
  cf := some (fileOf pool17 24 #[.nestMembers #[55, 131, 125, 114]] #[{ accessFlags := 1, nameIndex := 5, descriptorIndex := 6, attributes := #[] }] 33 2 #[] #[{ accessFlags := 25, nameIndex := 123, descriptorIndex := 124, attributes := #[] }, { accessFlags := 25, nameIndex := 130, descriptorIndex := 124, attributes := #[] }, { accessFlags := 25, nameIndex := 136, descriptorIndex := 124, attributes := #[] }])
  fields := #[{ name := "SIOOBE_FORMATTER", type := (.object "java/util/function/BiFunction"), accessFlags := 25, slot := 0, constantValue := 0 }, { name := "AIOOBE_FORMATTER", type := (.object "java/util/function/BiFunction"), accessFlags := 25, slot := 1, constantValue := 0 }, { name := "IOOBE_FORMATTER", type := (.object "java/util/function/BiFunction"), accessFlags := 25, slot := 2, constantValue := 0 }]
  methods := #[k17m0]
  instanceTypes := #[]
  staticTypes := #[(.object "java/util/function/BiFunction"), (.object "java/util/function/BiFunction"), (.object "java/util/function/BiFunction")]
  resolved := Array.replicate 194 none
  statics := some 4 }

def pool18 : Array CpInfo := pool [(9, u "<init>"), (6, .class_ 18), (1, u "java/lang/Object"), (0, u "()V"), (1, .class_ 23), (1, u "jdk/internal/util/ArraysSupport"), (0, u "LOG2_ARRAY_LONG_INDEX_SCALE"), (0, u "I"), (2, u "U"), (0, u "Ljdk/internal/misc/Unsafe;"), (8, u "BIG_ENDIAN"), (0, u "Z"), (8, u "LOG2_BYTE_BIT_SIZE"), (4, u "LOG2_ARRAY_INT_INDEX_SCALE"), (54, u "JLA"), (0, u "Ljdk/internal/access/JavaLangAccess;"), (11, u "LOG2_ARRAY_BOOLEAN_INDEX_SCALE"), (9, u "LOG2_ARRAY_BYTE_INDEX_SCALE"), (5, u "LOG2_ARRAY_CHAR_INDEX_SCALE"), (5, u "LOG2_ARRAY_SHORT_INDEX_SCALE"), (18, u "LOG2_ARRAY_FLOAT_INDEX_SCALE"), (24, u "LOG2_ARRAY_DOUBLE_INDEX_SCALE"), (89, u "T_BOOLEAN"), (2, u "T_CHAR"), (1, u "T_FLOAT"), (1, u "T_DOUBLE"), (1, u "T_BYTE"), (1, u "T_SHORT"), (1, u "T_INT"), (1, u "T_LONG"), (1, u "SOFT_MAX_ARRAY_LENGTH")] 83

def k18m0 : Method := { name := "<init>", desc := "()V", sig := { parameters := [], returnType := none }, accessFlags := 2, code := none }
/-- jdk/internal/util/ArraysSupport -/
def k18 : Class := { plain "jdk/internal/util/ArraysSupport" (some 0) with
  accessFlags := 33
  interfaces := #[]
  cf := some (fileOf pool18 21 #[] #[{ accessFlags := 2, nameIndex := 9, descriptorIndex := 19, attributes := #[] }] 33 16 #[] #[{ accessFlags := 24, nameIndex := 28, descriptorIndex := 29, attributes := #[] }, { accessFlags := 26, nameIndex := 38, descriptorIndex := 39, attributes := #[] }, { accessFlags := 25, nameIndex := 121, descriptorIndex := 25, attributes := #[] }, { accessFlags := 25, nameIndex := 131, descriptorIndex := 25, attributes := #[] }, { accessFlags := 25, nameIndex := 137, descriptorIndex := 25, attributes := #[] }, { accessFlags := 25, nameIndex := 143, descriptorIndex := 25, attributes := #[] }, { accessFlags := 25, nameIndex := 53, descriptorIndex := 25, attributes := #[] }, { accessFlags := 25, nameIndex := 24, descriptorIndex := 25, attributes := #[] }, { accessFlags := 25, nameIndex := 162, descriptorIndex := 25, attributes := #[] }, { accessFlags := 25, nameIndex := 187, descriptorIndex := 25, attributes := #[] }, { accessFlags := 26, nameIndex := 48, descriptorIndex := 25, attributes := #[] }, { accessFlags := 25, nameIndex := 277, descriptorIndex := 25, attributes := #[] }, { accessFlags := 25, nameIndex := 280, descriptorIndex := 25, attributes := #[] }, { accessFlags := 25, nameIndex := 282, descriptorIndex := 25, attributes := #[] }, { accessFlags := 25, nameIndex := 284, descriptorIndex := 25, attributes := #[] }, { accessFlags := 25, nameIndex := 286, descriptorIndex := 25, attributes := #[] }, { accessFlags := 25, nameIndex := 288, descriptorIndex := 25, attributes := #[] }, { accessFlags := 25, nameIndex := 290, descriptorIndex := 25, attributes := #[] }, { accessFlags := 25, nameIndex := 292, descriptorIndex := 25, attributes := #[] }, { accessFlags := 26, nameIndex := 108, descriptorIndex := 109, attributes := #[] }, { accessFlags := 25, nameIndex := 294, descriptorIndex := 25, attributes := #[] }])
  fields := #[{ name := "U", type := (.object "jdk/internal/misc/Unsafe"), accessFlags := 24, slot := 0, constantValue := 0 }, { name := "BIG_ENDIAN", type := .boolean, accessFlags := 26, slot := 1, constantValue := 0 }, { name := "LOG2_ARRAY_BOOLEAN_INDEX_SCALE", type := .int, accessFlags := 25, slot := 2, constantValue := 0 }, { name := "LOG2_ARRAY_BYTE_INDEX_SCALE", type := .int, accessFlags := 25, slot := 3, constantValue := 0 }, { name := "LOG2_ARRAY_CHAR_INDEX_SCALE", type := .int, accessFlags := 25, slot := 4, constantValue := 0 }, { name := "LOG2_ARRAY_SHORT_INDEX_SCALE", type := .int, accessFlags := 25, slot := 5, constantValue := 0 }, { name := "LOG2_ARRAY_INT_INDEX_SCALE", type := .int, accessFlags := 25, slot := 6, constantValue := 0 }, { name := "LOG2_ARRAY_LONG_INDEX_SCALE", type := .int, accessFlags := 25, slot := 7, constantValue := 0 }, { name := "LOG2_ARRAY_FLOAT_INDEX_SCALE", type := .int, accessFlags := 25, slot := 8, constantValue := 0 }, { name := "LOG2_ARRAY_DOUBLE_INDEX_SCALE", type := .int, accessFlags := 25, slot := 9, constantValue := 0 }, { name := "LOG2_BYTE_BIT_SIZE", type := .int, accessFlags := 26, slot := 10, constantValue := 0 }, { name := "T_BOOLEAN", type := .int, accessFlags := 25, slot := 11, constantValue := 0 }, { name := "T_CHAR", type := .int, accessFlags := 25, slot := 12, constantValue := 0 }, { name := "T_FLOAT", type := .int, accessFlags := 25, slot := 13, constantValue := 0 }, { name := "T_DOUBLE", type := .int, accessFlags := 25, slot := 14, constantValue := 0 }, { name := "T_BYTE", type := .int, accessFlags := 25, slot := 15, constantValue := 0 }, { name := "T_SHORT", type := .int, accessFlags := 25, slot := 16, constantValue := 0 }, { name := "T_INT", type := .int, accessFlags := 25, slot := 17, constantValue := 0 }, { name := "T_LONG", type := .int, accessFlags := 25, slot := 18, constantValue := 0 }, { name := "JLA", type := (.object "jdk/internal/access/JavaLangAccess"), accessFlags := 26, slot := 19, constantValue := 0 }, { name := "SOFT_MAX_ARRAY_LENGTH", type := .int, accessFlags := 25, slot := 20, constantValue := 0 }]
  methods := #[k18m0]
  instanceTypes := #[]
  staticTypes := #[(.object "jdk/internal/misc/Unsafe"), .boolean, .int, .int, .int, .int, .int, .int, .int, .int, .int, .int, .int, .int, .int, .int, .int, .int, .int, (.object "jdk/internal/access/JavaLangAccess"), .int]
  resolved := Array.replicate 378 none
  statics := none }

def pool19 : Array CpInfo := pool [(1, u "java/lang/Cloneable"), (0, .class_ 1), (0, u "java/lang/Object"), (0, .class_ 3)] 3

/-- java/lang/Cloneable -/
def k19 : Class := { plain "java/lang/Cloneable" (some 0) with
  accessFlags := 1537
  interfaces := #[]
  cf := some (fileOf pool19 2 #[] #[] 1537 4 #[] #[])
  fields := #[]
  methods := #[]
  instanceTypes := #[]
  staticTypes := #[]
  resolved := Array.replicate 8 none
  statics := none }

/-- the primitive byte -/
def k20 : Class := { plain "byte" none with kind := .primitive 'B', accessFlags := 0x411 }
/-- [B -/
def k21 : Class := { plain "[B" (some 0) with kind := .array 20 .byte, interfaces := #[19, 4], accessFlags := 1041 }

/-- the primitive char -/
def k22 : Class := { plain "char" none with kind := .primitive 'C', accessFlags := 0x411 }
/-- [C -/
def k23 : Class := { plain "[C" (some 0) with kind := .array 22 .char, interfaces := #[19, 4], accessFlags := 1041 }

/-- the primitive int -/
def k24 : Class := { plain "int" none with kind := .primitive 'I', accessFlags := 0x411 }
/-- [I -/
def k25 : Class := { plain "[I" (some 0) with kind := .array 24 .int, interfaces := #[19, 4], accessFlags := 1041 }

def heap : Heap := #[{ cls := 6, slots := #[.ref 5, .ref 6, .ref 7, .ref 8, .ref 9, .ref 10, .ref 11, .null], vm := .statics 6 },
  { cls := 9, slots := #[.long 0, .int 1, .null, .int 0, .null, .int 0, .int 0], vm := .statics 9 },
  { cls := 15, slots := #[.ref 12], vm := .statics 15 },
  { cls := 16, slots := #[.ref 13], vm := .statics 16 },
  { cls := 17, slots := #[.null, .null, .null], vm := .statics 17 },
  { cls := 6, slots := #[.null, .int 0, .int 0, .int 0, .null, .null], vm := .none },
  { cls := 6, slots := #[.null, .int 1, .int 0, .int 0, .null, .null], vm := .none },
  { cls := 6, slots := #[.null, .int 2, .int 0, .int 0, .null, .null], vm := .none },
  { cls := 6, slots := #[.null, .int 3, .int 0, .int 0, .null, .null], vm := .none },
  { cls := 6, slots := #[.null, .int 4, .int 0, .int 0, .null, .null], vm := .none },
  { cls := 6, slots := #[.null, .int 5, .int 0, .int 0, .null, .null], vm := .none },
  { cls := 6, slots := #[.null, .int 6, .int 0, .int 0, .null, .null], vm := .none },
  { cls := 15, slots := #[.int 0, .long 0], vm := .none },
  { cls := 16, slots := #[.null], vm := .none }]
def classes : Array Class := #[k0, k1, k2, k3, k4, k5, k6, k7, k8, k9, k10, k11, k12, k13, k14, k15, k16, k17, k18, k19, k20, k21, k22, k23, k24, k25]
def interned : List (Array UInt16 × Addr) := []
def slotsUsed : Nat := 65
def theMethod : MethodId := ⟨1, 2⟩
def args0 : Array Value := #[.int 5, .int 7, .int 1, .int 2, .int 3]
def aboutOver (below : List Frame) : State where
  vm := { classes := classes, interned := interned.toArray }
  heap := heap
  slotsUsed := slotsUsed
  threads := #[{ frames := .invoking theMethod args0 :: below }]
def below0 : List Frame := [.native { method := ⟨0, 0⟩, args := #[] }]
def about1 : State := aboutOver below0
def p0 : Program := .bare "" "" ""
def e0 : Env := launch0.env 0 0 0
theorem w_frames : about1.frames = Frame.invoking theMethod args0 :: below0 := rfl
set_option maxRecDepth 65536 in
theorem w_args : argsFit about1.vm theMethod args0 = true := by decide +kernel
set_option maxRecDepth 65536 in
theorem w_heap : heapFits about1 = true := by decide +kernel
set_option maxRecDepth 65536 in
theorem w_runnable : about1.curStatus? = some .runnable := by decide +kernel
set_option maxRecDepth 65536 in
theorem w_alone : about1.alone = true := by decide +kernel
set_option maxRecDepth 65536 in
theorem w_named : about1.methodNamed? x = some theMethod := by decide +kernel
set_option maxRecDepth 65536 in
theorem w_hears : about1.hears theMethod below0 = true := by decide +kernel
set_option maxRecDepth 65536 in
theorem w_ripe : about1.ripe theMethod args0 below0 = true := by decide +kernel
theorem w_running : about1.status = .running := rfl
set_option maxRecDepth 65536 in
theorem w_room : about1.hasRoom e0.platform room_1 = true :=
  launch0.hasRoom_least _ room_1 (by decide +kernel) (by decide +kernel) (by decide +kernel) (by decide +kernel) (by decide +kernel) (by decide +kernel)
theorem allAtoms_all (ts : List Jvm.Cond) (a : Array Jvm.Value) (st : Jvm.State) : (allAtoms ts).before a st = ts.all (fun c => c.before a st) := by
  induction ts with
  | nil => rfl
  | cons c t ih =>
    show (Jvm.Cond.and c (allAtoms t)).before a st = _
    rw [Jvm.Cond.before_and, ih, List.all_cons]
def words1 : List Jvm.Cond := Jvm.Cond.code x code maxLocals ret :: tables_1
/-- a 'code' word, met by the world's own term for the bytes: nothing is compared byte by byte -/
theorem code_word {y : MethodName} {bytes : ByteArray} {mx : Nat} {rt : Option FieldType} {a : Array Value} {s : State} {m : MethodId} {meth : Method} {c : Code} (h1 : s.methodNamed? y = some m) (h2 : s.vm.method? m = some meth) (h3 : meth.code = some c) (h4 : c.code = bytes)
    (h5 : (c.maxLocals == mx && c.exceptionTable.isEmpty && decide (c.maxStack ≤ mostOperands) && decide (meth.sig.returnType = rt) && !meth.locks && decide (parseMethodDescriptor y.desc = some meth.sig)) = true) : (Jvm.Cond.code y bytes mx rt).before a s = true := by
  simp only [Bool.and_eq_true, beq_iff_eq, Bool.not_eq_true', decide_eq_true_eq] at h5
  obtain ⟨⟨⟨⟨⟨g1, g2⟩, g3⟩, g4⟩, g5⟩, g6⟩ := h5
  simp [Cond.before, Cond.holds, Cond.value, h1, h2, h3, h4, g1, g2, g3, g4, g5, g6]
def isCode : Jvm.Cond → Bool
  | .code _ _ _ _ => true
  | _ => false
theorem all_split {L : List Jvm.Cond} {P : Jvm.Cond → Bool} (h1 : L.all (fun c => isCode c || P c) = true) (h2 : ∀ c ∈ L.filter isCode, P c = true) : L.all P = true := by
  refine List.all_eq_true.mpr fun c hc => ?_
  have h := List.all_eq_true.mp h1 c hc
  rcases Bool.eq_false_or_eq_true (isCode c) with hi | hi
  · exact h2 c (List.mem_filter.mpr ⟨hc, hi⟩)
  · simpa [hi] using h
set_option maxRecDepth 65536 in
theorem w_c0 : (Jvm.Cond.code x code maxLocals ret).before args0 about1 = true := code_word (m := ⟨1, 2⟩) (meth := k1m2) (c := k1c2) (by decide +kernel) rfl rfl rfl (by decide +kernel)
set_option maxRecDepth 65536 in
theorem w_c1 : (Jvm.Cond.code ({ cls := "com/example/plain_keys/plainkeys/key/VerdictRefusedPinLaw", name := "pick", desc := "(I)Lcom/example/plain_keys/plainkeys/key/Refusal;" } : Jvm.MethodName) method_2_code (2 : Nat) (Option.some (Jvm.ClassFile.FieldType.object "com/example/plain_keys/plainkeys/key/Refusal"))).before args0 about1 = true := code_word (m := ⟨1, 1⟩) (meth := k1m1) (c := k1c1) (by decide +kernel) rfl rfl rfl (by decide +kernel)
set_option maxRecDepth 65536 in
theorem w_c2 : (Jvm.Cond.code ({ cls := "java/lang/String", name := "<init>", desc := "([C)V" } : Jvm.MethodName) jdk_42_method_3_code (2 : Nat) (Option.none : Option Jvm.ClassFile.FieldType)).before args0 about1 = true := code_word (m := ⟨9, 1⟩) (meth := k9m1) (c := k9c1) (by decide +kernel) rfl rfl rfl (by decide +kernel)
set_option maxRecDepth 65536 in
theorem w_c3 : (Jvm.Cond.code ({ cls := "java/lang/String", name := "<init>", desc := "([CIILjava/lang/Void;)V" } : Jvm.MethodName) jdk_42_method_149_code (6 : Nat) (Option.none : Option Jvm.ClassFile.FieldType)).before args0 about1 = true := code_word (m := ⟨9, 3⟩) (meth := k9m3) (c := k9c3) (by decide +kernel) rfl rfl rfl (by decide +kernel)
set_option maxRecDepth 65536 in
theorem w_c4 : (Jvm.Cond.code ({ cls := "java/lang/Object", name := "<init>", desc := "()V" } : Jvm.MethodName) object_method_1_code (1 : Nat) (Option.none : Option Jvm.ClassFile.FieldType)).before args0 about1 = true := code_word (m := ⟨0, 0⟩) (meth := k0m0) (c := k0c0) (by decide +kernel) rfl rfl rfl (by decide +kernel)
set_option maxRecDepth 65536 in
theorem w_c5 : (Jvm.Cond.code ({ cls := "java/lang/StringUTF16", name := "compress", desc := "([CII)[B" } : Jvm.MethodName) jdk_52_method_16_code (6 : Nat) (Option.some (Jvm.ClassFile.FieldType.array Jvm.ClassFile.FieldType.byte))).before args0 about1 = true := code_word (m := ⟨10, 2⟩) (meth := k10m2) (c := k10c2) (by decide +kernel) rfl rfl rfl (by decide +kernel)
set_option maxRecDepth 65536 in
theorem w_c6 : (Jvm.Cond.code ({ cls := "java/lang/StringUTF16", name := "compress", desc := "([CI[BII)I" } : Jvm.MethodName) jdk_52_method_21_code (7 : Nat) (Option.some Jvm.ClassFile.FieldType.int)).before args0 about1 = true := code_word (m := ⟨10, 3⟩) (meth := k10m3) (c := k10c3) (by decide +kernel) rfl rfl rfl (by decide +kernel)
set_option maxRecDepth 65536 in
theorem w_c7 : (Jvm.Cond.code ({ cls := "java/lang/StringUTF16", name := "coderFromArrayLen", desc := "([BI)B" } : Jvm.MethodName) jdk_52_method_15_code (2 : Nat) (Option.some Jvm.ClassFile.FieldType.byte)).before args0 about1 = true := code_word (m := ⟨10, 1⟩) (meth := k10m1) (c := k10c1) (by decide +kernel) rfl rfl rfl (by decide +kernel)
set_option maxRecDepth 65536 in
theorem w_c8 : (Jvm.Cond.code ({ cls := "java/lang/String", name := "valueOf", desc := "(C)Ljava/lang/String;" } : Jvm.MethodName) jdk_42_method_139_code (1 : Nat) (Option.some (Jvm.ClassFile.FieldType.object "java/lang/String"))).before args0 about1 = true := code_word (m := ⟨9, 2⟩) (meth := k9m2) (c := k9c2) (by decide +kernel) rfl rfl rfl (by decide +kernel)
set_option maxRecDepth 65536 in
theorem w_c9 : (Jvm.Cond.code ({ cls := "java/lang/StringLatin1", name := "canEncode", desc := "(C)Z" } : Jvm.MethodName) jdk_43_method_3_code (1 : Nat) (Option.some Jvm.ClassFile.FieldType.boolean)).before args0 about1 = true := code_word (m := ⟨11, 1⟩) (meth := k11m1) (c := k11c1) (by decide +kernel) rfl rfl rfl (by decide +kernel)
set_option maxRecDepth 65536 in
theorem w_c10 : (Jvm.Cond.code ({ cls := "java/lang/StringLatin1", name := "toBytes", desc := "(C)[B" } : Jvm.MethodName) jdk_43_method_46_code (1 : Nat) (Option.some (Jvm.ClassFile.FieldType.array Jvm.ClassFile.FieldType.byte))).before args0 about1 = true := code_word (m := ⟨11, 2⟩) (meth := k11m2) (c := k11c2) (by decide +kernel) rfl rfl rfl (by decide +kernel)
set_option maxRecDepth 65536 in
theorem w_c11 : (Jvm.Cond.code ({ cls := "java/lang/String", name := "<init>", desc := "([BB)V" } : Jvm.MethodName) jdk_42_method_151_code (3 : Nat) (Option.none : Option Jvm.ClassFile.FieldType)).before args0 about1 = true := code_word (m := ⟨9, 4⟩) (meth := k9m4) (c := k9c4) (by decide +kernel) rfl rfl rfl (by decide +kernel)
set_option maxRecDepth 65536 in
theorem w_c12 : (Jvm.Cond.code ({ cls := "com/example/plain_keys/plainkeys/key/KeyName", name := "<init>", desc := "(Ljava/lang/String;Ljava/lang/String;Ljava/lang/String;)V" } : Jvm.MethodName) prog_14_method_1_code (4 : Nat) (Option.none : Option Jvm.ClassFile.FieldType)).before args0 about1 = true := code_word (m := ⟨13, 0⟩) (meth := k13m0) (c := k13c0) (by decide +kernel) rfl rfl rfl (by decide +kernel)
set_option maxRecDepth 65536 in
theorem w_c13 : (Jvm.Cond.code ({ cls := "java/lang/Record", name := "<init>", desc := "()V" } : Jvm.MethodName) jdk_30_method_1_code (1 : Nat) (Option.none : Option Jvm.ClassFile.FieldType)).before args0 about1 = true := code_word (m := ⟨12, 0⟩) (meth := k12m0) (c := k12c0) (by decide +kernel) rfl rfl rfl (by decide +kernel)
set_option maxRecDepth 65536 in
theorem w_c14 : (Jvm.Cond.code ({ cls := "com/example/plain_keys/plainkeys/key/Verdict", name := "refused", desc := "(Lcom/example/plain_keys/plainkeys/key/Refusal;Lcom/example/plain_keys/plainkeys/key/KeyName;)Lcom/example/plain_keys/plainkeys/key/Verdict;" } : Jvm.MethodName) prog_24_method_5_code (2 : Nat) (Option.some (Jvm.ClassFile.FieldType.object "com/example/plain_keys/plainkeys/key/Verdict"))).before args0 about1 = true := code_word (m := ⟨14, 1⟩) (meth := k14m1) (c := k14c1) (by decide +kernel) rfl rfl rfl (by decide +kernel)
set_option maxRecDepth 65536 in
theorem w_c15 : (Jvm.Cond.code ({ cls := "com/example/plain_keys/plainkeys/key/Verdict", name := "<init>", desc := "(Lcom/example/plain_keys/plainkeys/key/Key;Lcom/example/plain_keys/plainkeys/key/KeyName;JLjava/time/Instant;Lcom/example/plain_keys/plainkeys/key/Refusal;J)V" } : Jvm.MethodName) prog_24_method_1_code (9 : Nat) (Option.none : Option Jvm.ClassFile.FieldType)).before args0 about1 = true := code_word (m := ⟨14, 0⟩) (meth := k14m0) (c := k14c0) (by decide +kernel) rfl rfl rfl (by decide +kernel)
set_option maxRecDepth 65536 in
theorem w_c16 : (Jvm.Cond.code ({ cls := "com/example/plain_keys/plainkeys/key/Verdict", name := "opens", desc := "()Z" } : Jvm.MethodName) prog_24_method_6_code (1 : Nat) (Option.some Jvm.ClassFile.FieldType.boolean)).before args0 about1 = true := code_word (m := ⟨14, 2⟩) (meth := k14m2) (c := k14c2) (by decide +kernel) rfl rfl rfl (by decide +kernel)
set_option maxRecDepth 65536 in
theorem w_c17 : (Jvm.Cond.code ({ cls := "com/example/plain_keys/plainkeys/key/Verdict", name := "refusal", desc := "()Lcom/example/plain_keys/plainkeys/key/Refusal;" } : Jvm.MethodName) prog_24_method_13_code (1 : Nat) (Option.some (Jvm.ClassFile.FieldType.object "com/example/plain_keys/plainkeys/key/Refusal"))).before args0 about1 = true := code_word (m := ⟨14, 5⟩) (meth := k14m5) (c := k14c5) (by decide +kernel) rfl rfl rfl (by decide +kernel)
set_option maxRecDepth 65536 in
theorem w_c18 : (Jvm.Cond.code ({ cls := "com/example/plain_keys/plainkeys/key/Verdict", name := "entry", desc := "()Ljava/util/OptionalLong;" } : Jvm.MethodName) prog_24_method_10_code (1 : Nat) (Option.some (Jvm.ClassFile.FieldType.object "java/util/OptionalLong"))).before args0 about1 = true := code_word (m := ⟨14, 4⟩) (meth := k14m4) (c := k14c4) (by decide +kernel) rfl rfl rfl (by decide +kernel)
set_option maxRecDepth 65536 in
theorem w_c19 : (Jvm.Cond.code ({ cls := "java/util/OptionalLong", name := "empty", desc := "()Ljava/util/OptionalLong;" } : Jvm.MethodName) jdk_2650_method_2_code (0 : Nat) (Option.some (Jvm.ClassFile.FieldType.object "java/util/OptionalLong"))).before args0 about1 = true := code_word (m := ⟨15, 1⟩) (meth := k15m1) (c := k15c1) (by decide +kernel) rfl rfl rfl (by decide +kernel)
set_option maxRecDepth 65536 in
theorem w_c20 : (Jvm.Cond.code ({ cls := "java/util/OptionalLong", name := "isPresent", desc := "()Z" } : Jvm.MethodName) jdk_2650_method_6_code (1 : Nat) (Option.some Jvm.ClassFile.FieldType.boolean)).before args0 about1 = true := code_word (m := ⟨15, 2⟩) (meth := k15m2) (c := k15c2) (by decide +kernel) rfl rfl rfl (by decide +kernel)
set_option maxRecDepth 65536 in
theorem w_c21 : (Jvm.Cond.code ({ cls := "com/example/plain_keys/plainkeys/key/Verdict", name := "keyName", desc := "()Ljava/util/Optional;" } : Jvm.MethodName) prog_24_method_9_code (1 : Nat) (Option.some (Jvm.ClassFile.FieldType.object "java/util/Optional"))).before args0 about1 = true := code_word (m := ⟨14, 3⟩) (meth := k14m3) (c := k14c3) (by decide +kernel) rfl rfl rfl (by decide +kernel)
set_option maxRecDepth 65536 in
theorem w_c22 : (Jvm.Cond.code ({ cls := "java/util/Optional", name := "ofNullable", desc := "(Ljava/lang/Object;)Ljava/util/Optional;" } : Jvm.MethodName) jdk_32_method_4_code (1 : Nat) (Option.some (Jvm.ClassFile.FieldType.object "java/util/Optional"))).before args0 about1 = true := code_word (m := ⟨16, 1⟩) (meth := k16m1) (c := k16c1) (by decide +kernel) rfl rfl rfl (by decide +kernel)
set_option maxRecDepth 65536 in
theorem w_c23 : (Jvm.Cond.code ({ cls := "java/util/Optional", name := "<init>", desc := "(Ljava/lang/Object;)V" } : Jvm.MethodName) jdk_32_method_2_code (2 : Nat) (Option.none : Option Jvm.ClassFile.FieldType)).before args0 about1 = true := code_word (m := ⟨16, 0⟩) (meth := k16m0) (c := k16c0) (by decide +kernel) rfl rfl rfl (by decide +kernel)
set_option maxRecDepth 65536 in
theorem w_c24 : (Jvm.Cond.code ({ cls := "java/util/Optional", name := "isPresent", desc := "()Z" } : Jvm.MethodName) jdk_32_method_6_code (1 : Nat) (Option.some Jvm.ClassFile.FieldType.boolean)).before args0 about1 = true := code_word (m := ⟨16, 3⟩) (meth := k16m3) (c := k16c3) (by decide +kernel) rfl rfl rfl (by decide +kernel)
set_option maxRecDepth 65536 in
theorem w_c25 : (Jvm.Cond.code ({ cls := "java/util/Optional", name := "get", desc := "()Ljava/lang/Object;" } : Jvm.MethodName) jdk_32_method_5_code (1 : Nat) (Option.some (Jvm.ClassFile.FieldType.object "java/lang/Object"))).before args0 about1 = true := code_word (m := ⟨16, 2⟩) (meth := k16m2) (c := k16c2) (by decide +kernel) rfl rfl rfl (by decide +kernel)
set_option maxRecDepth 65536 in
theorem w_c26 : (Jvm.Cond.code ({ cls := "java/util/Optional", name := "isEmpty", desc := "()Z" } : Jvm.MethodName) jdk_32_method_7_code (1 : Nat) (Option.some Jvm.ClassFile.FieldType.boolean)).before args0 about1 = true := code_word (m := ⟨16, 4⟩) (meth := k16m4) (c := k16c4) (by decide +kernel) rfl rfl rfl (by decide +kernel)
def codes1 : List Jvm.Cond := [Jvm.Cond.code x code maxLocals ret, Jvm.Cond.code ({ cls := "com/example/plain_keys/plainkeys/key/VerdictRefusedPinLaw", name := "pick", desc := "(I)Lcom/example/plain_keys/plainkeys/key/Refusal;" } : Jvm.MethodName) method_2_code (2 : Nat) (Option.some (Jvm.ClassFile.FieldType.object "com/example/plain_keys/plainkeys/key/Refusal")), Jvm.Cond.code ({ cls := "java/lang/String", name := "<init>", desc := "([C)V" } : Jvm.MethodName) jdk_42_method_3_code (2 : Nat) (Option.none : Option Jvm.ClassFile.FieldType), Jvm.Cond.code ({ cls := "java/lang/String", name := "<init>", desc := "([CIILjava/lang/Void;)V" } : Jvm.MethodName) jdk_42_method_149_code (6 : Nat) (Option.none : Option Jvm.ClassFile.FieldType), Jvm.Cond.code ({ cls := "java/lang/Object", name := "<init>", desc := "()V" } : Jvm.MethodName) object_method_1_code (1 : Nat) (Option.none : Option Jvm.ClassFile.FieldType), Jvm.Cond.code ({ cls := "java/lang/StringUTF16", name := "compress", desc := "([CII)[B" } : Jvm.MethodName) jdk_52_method_16_code (6 : Nat) (Option.some (Jvm.ClassFile.FieldType.array Jvm.ClassFile.FieldType.byte)), Jvm.Cond.code ({ cls := "java/lang/StringUTF16", name := "compress", desc := "([CI[BII)I" } : Jvm.MethodName) jdk_52_method_21_code (7 : Nat) (Option.some Jvm.ClassFile.FieldType.int), Jvm.Cond.code ({ cls := "java/lang/StringUTF16", name := "coderFromArrayLen", desc := "([BI)B" } : Jvm.MethodName) jdk_52_method_15_code (2 : Nat) (Option.some Jvm.ClassFile.FieldType.byte), Jvm.Cond.code ({ cls := "java/lang/String", name := "valueOf", desc := "(C)Ljava/lang/String;" } : Jvm.MethodName) jdk_42_method_139_code (1 : Nat) (Option.some (Jvm.ClassFile.FieldType.object "java/lang/String")), Jvm.Cond.code ({ cls := "java/lang/StringLatin1", name := "canEncode", desc := "(C)Z" } : Jvm.MethodName) jdk_43_method_3_code (1 : Nat) (Option.some Jvm.ClassFile.FieldType.boolean), Jvm.Cond.code ({ cls := "java/lang/StringLatin1", name := "toBytes", desc := "(C)[B" } : Jvm.MethodName) jdk_43_method_46_code (1 : Nat) (Option.some (Jvm.ClassFile.FieldType.array Jvm.ClassFile.FieldType.byte)), Jvm.Cond.code ({ cls := "java/lang/String", name := "<init>", desc := "([BB)V" } : Jvm.MethodName) jdk_42_method_151_code (3 : Nat) (Option.none : Option Jvm.ClassFile.FieldType), Jvm.Cond.code ({ cls := "com/example/plain_keys/plainkeys/key/KeyName", name := "<init>", desc := "(Ljava/lang/String;Ljava/lang/String;Ljava/lang/String;)V" } : Jvm.MethodName) prog_14_method_1_code (4 : Nat) (Option.none : Option Jvm.ClassFile.FieldType), Jvm.Cond.code ({ cls := "java/lang/Record", name := "<init>", desc := "()V" } : Jvm.MethodName) jdk_30_method_1_code (1 : Nat) (Option.none : Option Jvm.ClassFile.FieldType), Jvm.Cond.code ({ cls := "com/example/plain_keys/plainkeys/key/Verdict", name := "refused", desc := "(Lcom/example/plain_keys/plainkeys/key/Refusal;Lcom/example/plain_keys/plainkeys/key/KeyName;)Lcom/example/plain_keys/plainkeys/key/Verdict;" } : Jvm.MethodName) prog_24_method_5_code (2 : Nat) (Option.some (Jvm.ClassFile.FieldType.object "com/example/plain_keys/plainkeys/key/Verdict")), Jvm.Cond.code ({ cls := "com/example/plain_keys/plainkeys/key/Verdict", name := "<init>", desc := "(Lcom/example/plain_keys/plainkeys/key/Key;Lcom/example/plain_keys/plainkeys/key/KeyName;JLjava/time/Instant;Lcom/example/plain_keys/plainkeys/key/Refusal;J)V" } : Jvm.MethodName) prog_24_method_1_code (9 : Nat) (Option.none : Option Jvm.ClassFile.FieldType), Jvm.Cond.code ({ cls := "com/example/plain_keys/plainkeys/key/Verdict", name := "opens", desc := "()Z" } : Jvm.MethodName) prog_24_method_6_code (1 : Nat) (Option.some Jvm.ClassFile.FieldType.boolean), Jvm.Cond.code ({ cls := "com/example/plain_keys/plainkeys/key/Verdict", name := "refusal", desc := "()Lcom/example/plain_keys/plainkeys/key/Refusal;" } : Jvm.MethodName) prog_24_method_13_code (1 : Nat) (Option.some (Jvm.ClassFile.FieldType.object "com/example/plain_keys/plainkeys/key/Refusal")), Jvm.Cond.code ({ cls := "com/example/plain_keys/plainkeys/key/Verdict", name := "entry", desc := "()Ljava/util/OptionalLong;" } : Jvm.MethodName) prog_24_method_10_code (1 : Nat) (Option.some (Jvm.ClassFile.FieldType.object "java/util/OptionalLong")), Jvm.Cond.code ({ cls := "java/util/OptionalLong", name := "empty", desc := "()Ljava/util/OptionalLong;" } : Jvm.MethodName) jdk_2650_method_2_code (0 : Nat) (Option.some (Jvm.ClassFile.FieldType.object "java/util/OptionalLong")), Jvm.Cond.code ({ cls := "java/util/OptionalLong", name := "isPresent", desc := "()Z" } : Jvm.MethodName) jdk_2650_method_6_code (1 : Nat) (Option.some Jvm.ClassFile.FieldType.boolean), Jvm.Cond.code ({ cls := "com/example/plain_keys/plainkeys/key/Verdict", name := "keyName", desc := "()Ljava/util/Optional;" } : Jvm.MethodName) prog_24_method_9_code (1 : Nat) (Option.some (Jvm.ClassFile.FieldType.object "java/util/Optional")), Jvm.Cond.code ({ cls := "java/util/Optional", name := "ofNullable", desc := "(Ljava/lang/Object;)Ljava/util/Optional;" } : Jvm.MethodName) jdk_32_method_4_code (1 : Nat) (Option.some (Jvm.ClassFile.FieldType.object "java/util/Optional")), Jvm.Cond.code ({ cls := "java/util/Optional", name := "<init>", desc := "(Ljava/lang/Object;)V" } : Jvm.MethodName) jdk_32_method_2_code (2 : Nat) (Option.none : Option Jvm.ClassFile.FieldType), Jvm.Cond.code ({ cls := "java/util/Optional", name := "isPresent", desc := "()Z" } : Jvm.MethodName) jdk_32_method_6_code (1 : Nat) (Option.some Jvm.ClassFile.FieldType.boolean), Jvm.Cond.code ({ cls := "java/util/Optional", name := "get", desc := "()Ljava/lang/Object;" } : Jvm.MethodName) jdk_32_method_5_code (1 : Nat) (Option.some (Jvm.ClassFile.FieldType.object "java/lang/Object")), Jvm.Cond.code ({ cls := "java/util/Optional", name := "isEmpty", desc := "()Z" } : Jvm.MethodName) jdk_32_method_7_code (1 : Nat) (Option.some Jvm.ClassFile.FieldType.boolean)]
set_option maxRecDepth 65536 in
theorem codes_eq : words1.filter isCode = codes1 := rfl
theorem w_codes : ∀ c ∈ words1.filter isCode, c.before args0 about1 = true := by
  rw [codes_eq]
  intro c hc
  simp only [codes1, List.mem_cons, List.not_mem_nil, or_false] at hc
  rcases hc with rfl | rfl | rfl | rfl | rfl | rfl | rfl | rfl | rfl | rfl | rfl | rfl | rfl | rfl | rfl | rfl | rfl | rfl | rfl | rfl | rfl | rfl | rfl | rfl | rfl | rfl | rfl
  · exact w_c0
  · exact w_c1
  · exact w_c2
  · exact w_c3
  · exact w_c4
  · exact w_c5
  · exact w_c6
  · exact w_c7
  · exact w_c8
  · exact w_c9
  · exact w_c10
  · exact w_c11
  · exact w_c12
  · exact w_c13
  · exact w_c14
  · exact w_c15
  · exact w_c16
  · exact w_c17
  · exact w_c18
  · exact w_c19
  · exact w_c20
  · exact w_c21
  · exact w_c22
  · exact w_c23
  · exact w_c24
  · exact w_c25
  · exact w_c26
set_option maxRecDepth 65536 in
theorem w_t1 : (words1.take 24).all (fun c => isCode c || c.before args0 about1) = true := by decide +kernel
set_option maxRecDepth 65536 in
theorem w_t2 : ((words1.drop 24).take 24).all (fun c => isCode c || c.before args0 about1) = true := by decide +kernel
set_option maxRecDepth 65536 in
theorem w_t3 : (((words1.drop 24).drop 24).take 24).all (fun c => isCode c || c.before args0 about1) = true := by decide +kernel
set_option maxRecDepth 65536 in
theorem w_t4 : ((((words1.drop 24).drop 24).drop 24).take 24).all (fun c => isCode c || c.before args0 about1) = true := by decide +kernel
set_option maxRecDepth 65536 in
theorem w_t5 : (((((words1.drop 24).drop 24).drop 24).drop 24).take 24).all (fun c => isCode c || c.before args0 about1) = true := by decide +kernel
set_option maxRecDepth 65536 in
theorem w_t6 : ((((((words1.drop 24).drop 24).drop 24).drop 24).drop 24).take 24).all (fun c => isCode c || c.before args0 about1) = true := by decide +kernel
set_option maxRecDepth 65536 in
theorem w_t7 : ((((((words1.drop 24).drop 24).drop 24).drop 24).drop 24).drop 24).all (fun c => isCode c || c.before args0 about1) = true := by decide +kernel
theorem w_tables : (allAtoms (Jvm.Cond.code x code maxLocals ret :: tables_1)).before args0 about1 = true := by
  rw [allAtoms_all]
  show words1.all (fun c => c.before args0 about1) = true
  refine all_split ?_ w_codes
  rw [← List.take_append_drop 24 words1, List.all_append, w_t1, ← List.take_append_drop 24 (words1.drop 24), List.all_append, w_t2, ← List.take_append_drop 24 ((words1.drop 24).drop 24), List.all_append, w_t3, ← List.take_append_drop 24 (((words1.drop 24).drop 24).drop 24), List.all_append, w_t4, ← List.take_append_drop 24 ((((words1.drop 24).drop 24).drop 24).drop 24), List.all_append, w_t5, ← List.take_append_drop 24 (((((words1.drop 24).drop 24).drop 24).drop 24).drop 24), List.all_append, w_t6, w_t7]
  rfl
set_option maxRecDepth 65536 in
theorem w_rest : rest_1_c.before args0 about1 = true := by decide +kernel
set_option maxRecDepth 65536 in
theorem w_case : (Jvm.Cond.and given_1 narrow_1).before args0 about1 = true := by decide +kernel
theorem w_applies : (headSpec (Jvm.Cond.code x code maxLocals ret :: tables_1) room_1).applies x e0.platform about1 = true :=
  (Spec.applies_iff w_frames).mpr ⟨w_running, w_runnable, w_alone, w_named, w_hears, w_ripe, w_room, w_tables⟩
theorem atStart : AtStart classFile x code maxLocals ret World_1 tables_1 room_1 Calls_1 rest_1 Pre_1 launch0 p0 e0 about1 theMethod args0 below0 :=
  ⟨lists_1, trivial, launch0.admits_env _ _ _, launch0.least_env, fairChoices_fair.cas, fairChoices_fair.clock, w_frames, w_args, w_heap, w_applies, trivial, w_rest, w_case⟩
end start1
theorem witness_1 : WitnessClaimed_1 := ⟨start1.p0, start1.e0, start1.about1, start1.theMethod, start1.args0, start1.below0, start1.atStart⟩
end Jvm.Pilot.@@N@@
