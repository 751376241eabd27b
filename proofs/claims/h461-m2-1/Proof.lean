import JvmDerived
import JvmDerived.Pilot.@@N@@Statement
import JvmDerived.Pilot.@@N@@Code
set_option linter.unusedVariables false
set_option linter.unusedSimpArgs false
namespace Jvm.Pilot.@@N@@
open Jvm Jvm.ClassFile Sem Op Lib Jvm.Free Jvm.Stand Jvm.LawKit Jvm.RoadKit Bundle Jvm.Pilot.@@N@@.Jvm.D
section OwnKit
variable {p : Program} {l : Launch} {e : Env} {R : Room} {s : State} {m : MethodId} {args : Array Value} {below : List Frame} {meth : Method} {c : Code} {T : State} {locs : List Loc} {cells slots : Nat} {Z : State} {a0 : Array Value} {h : Heap}
/-- from U the invocation ends, returns v, and Q holds of v, the heap and the written places -/
def OGo (p : Program) (e : Env) (below : List Frame) (s : State) (R : Room) (Q : Option Value → Heap → List Loc → Prop) (U : State) : Prop :=
  ∃ s₂ o, Steps p.tables e below U s₂ ∧ s₂.status = .running ∧ Ended s₂ below o ∧ ∃ v L, o = .returned v ∧ Q v s₂.heap L ∧ FrameEnd s o s₂ L R.cells R.slots
variable {Q : Option Value → Heap → List Loc → Prop}
theorem own_st {A B : State} (hs : ∀ t, Steps p.tables e below A t → Steps p.tables e below B t) (k : OGo p e below s R Q A) : OGo p e below s R Q B := by
  obtain ⟨t, o, h1, h2⟩ := k
  exact ⟨t, o, hs t h1, h2⟩
theorem own_ret {v : Option Value} {U : State} (X : Stand p l e R s m args below meth c T locs cells slots) (hlk : meth.locks = false) (hv : meth.sig.returnType = none → v = none) (hc : cells ≤ R.cells) (hs : slots ≤ R.slots) (hq : Q v T.heap locs)
    (st : ∀ fs, (∀ (f : JFrame) (acts : List Action), f.method = m → f.locked = none → f.entered = [] → (doReturn e (T.setTop f) acts v).1 = T.setFrames fs) → Steps p.tables e below U (T.setFrames fs)) : OGo p e below s R Q U := by
  obtain ⟨fs, hr, hrun, hended, hW, hsame⟩ := X.leave (v := v) hv hlk
  exact ⟨_, _, st fs hr, hrun, hended, v, locs, rfl, hq, ⟨_, rfl⟩, hW, hsame.mono hc hs⟩
theorem own_retV (X : Stand p l e R s m args below meth c T locs cells slots) (hx : p.tables.exec = Jvm.exec) (hlk : meth.locks = false) {pc : Nat} {Ls : Array Slot} (hret : meth.sig.returnType = none) (hd : decode c.code pc = .ok (.return_, 1)) (hc : cells ≤ R.cells) (hs : slots ≤ R.slots) (hq : Q none T.heap locs) :
    OGo p e below s R Q (T.setTop (mkF m pc Ls [])) :=
  own_ret X hlk (fun _ => rfl) hc hs hq fun fs hr => X.returnOut hx hret hd hr
theorem own_retN (X : Stand p l e R s m args below meth c T locs cells slots) (hx : p.tables.exec = Jvm.exec) (hlk : meth.locks = false) {pc : Nat} {Ls : Array Slot} {z : Int32} {t : FieldType} {rest : List Value} (hret : meth.sig.returnType = some t) (ht : t = .boolean ∨ t = .byte ∨ t = .char ∨ t = .short)
    (hd : decode c.code pc = .ok (.ireturn, 1)) (hc : cells ≤ R.cells) (hs : slots ≤ R.slots) (hq : Q (some (.int (nar t z))) T.heap locs) : OGo p e below s R Q (T.setTop (mkF m pc Ls (.int z :: rest))) :=
  own_ret X hlk (fun q => by rw [hret] at q; cases q) hc hs hq fun fs hr => retN X hx hret ht hd hr
theorem own_retI (X : Stand p l e R s m args below meth c T locs cells slots) (hx : p.tables.exec = Jvm.exec) (hlk : meth.locks = false) {pc : Nat} {Ls : Array Slot} {z : Int32} {rest : List Value} (hret : meth.sig.returnType = some .int)
    (hd : decode c.code pc = .ok (.ireturn, 1)) (hc : cells ≤ R.cells) (hs : slots ≤ R.slots) (hq : Q (some (.int z)) T.heap locs) : OGo p e below s R Q (T.setTop (mkF m pc Ls (.int z :: rest))) :=
  own_ret X hlk (fun q => by rw [hret] at q; cases q) hc hs hq fun fs hr => by
    have hm' : T.vm.method? m = some meth := X.method'
    have hn : narrow .int (.int z) = .int z := rfl
    show Steps p.tables e below (T.setTop { method := m, pc := pc, locals := Ls, stack := _ :: rest, locked := none }) _
    jvm_step X.here [X.here.top, hx, hd, hm', hret, hn]
    first | (intro acts; rw [hr _ acts rfl rfl rfl]) | rw [hr _ _ rfl rfl rfl]
    exact Steps.refl _
theorem own_retJ (X : Stand p l e R s m args below meth c T locs cells slots) (hx : p.tables.exec = Jvm.exec) (hlk : meth.locks = false) {pc : Nat} {Ls : Array Slot} {z : Int64} {rest : List Value} (hret : meth.sig.returnType = some .long)
    (hd : decode c.code pc = .ok (.lreturn, 1)) (hc : cells ≤ R.cells) (hs : slots ≤ R.slots) (hq : Q (some (.long z)) T.heap locs) : OGo p e below s R Q (T.setTop (mkF m pc Ls (.long z :: rest))) :=
  own_ret X hlk (fun q => by rw [hret] at q; cases q) hc hs hq fun fs hr => by
    show Steps p.tables e below (T.setTop { method := m, pc := pc, locals := Ls, stack := _ :: rest, locked := none }) _
    jvm_step X.here [X.here.top, hx, hd, X.method', hret, narrow]
    first | (intro acts; rw [hr _ acts rfl rfl rfl]) | rw [hr _ _ rfl rfl rfl]
    exact Steps.refl _
theorem own_retA (X : Stand p l e R s m args below meth c T locs cells slots) (hx : p.tables.exec = Jvm.exec) (hlk : meth.locks = false) {pc : Nat} {Ls : Array Slot} {z : Value} {rest : List Value} {t : FieldType} (hret : meth.sig.returnType = some t) (hz : z.isRef = true) (ht : t.isReference = true)
    (hd : decode c.code pc = .ok (.areturn, 1)) (hc : cells ≤ R.cells) (hs : slots ≤ R.slots) (hq : Q (some z) T.heap locs) : OGo p e below s R Q (T.setTop (mkF m pc Ls (z :: rest))) :=
  own_ret X hlk (fun q => by rw [hret] at q; cases q) hc hs hq fun fs hr => by
    show Steps p.tables e below (T.setTop { method := m, pc := pc, locals := Ls, stack := _ :: rest, locked := none }) _
    jvm_step X.here [X.here.top, hx, hd, X.method', hret, hz, ht]
    first | (intro acts; rw [hr _ acts rfl rfl rfl]) | rw [hr _ _ rfl rfl rfl]
    exact Steps.refl _
/-- the contract of a body at the arguments 'as' and the heap h0 -/
abbrev OMet (l : Launch) (Z : State) (y : MethodName) (bytes : ByteArray) (ml : Nat) (rt : Option FieldType) (ws : List Jvm.Cond) (R : Room) (as : Array Value) (h0 : Heap) (Q : Option Value → Heap → List Loc → Prop) : Prop :=
  MetFree l y (head1 (Jvm.Cond.code y bytes ml rt :: ws) R) (fun a U => a = as ∧ Z.Warmed39 U.vm ∧ U.heap = h0) (fun _ _ _ _ _ => True) (fun _ U o U' => ∃ v L, o = .returned v ∧ Q v U'.heap L ∧ FrameEnd U o U' L R.cells R.slots)
/-- .. of one that returns v and leaves everything -/
abbrev OPure (l : Launch) (Z : State) (y : MethodName) (bytes : ByteArray) (ml : Nat) (rt : Option FieldType) (ws : List Jvm.Cond) (R : Room) (as : Array Value) (h0 : Heap) (v : Option Value) : Prop :=
  OMet l Z y bytes ml rt ws R as h0 (fun v' h' L => v' = v ∧ L = [] ∧ h' = h0)
theorem own_body {y : MethodName} {bytes : ByteArray} {ml : Nat} {rt : Option FieldType} {ws : List Jvm.Cond} {as : Array Value} {h0 : Heap} {L0 : Array Slot} (hp : plainFor y = true) (ef : ∀ m, entryFrame m as ml = mkF m 0 L0 [])
    (body : ∀ p e s m below meth c T, p.tables.exec = Jvm.exec → c.code = bytes → c.maxLocals = ml → s.vm.findClass y.cls = some m.cls → meth.name = y.name → meth.sig.returnType = rt → meth.locks = false → Z.Warmed39 s.vm →
      Stand p l e R s m as below meth c T [] 0 0 → T.heap = h0 → OGo p e below s R Q (T.setTop (mkF m 0 L0 []))) : OMet l Z y bytes ml rt ws R as h0 Q := by
  refine MetFree.of_bodySF hp hisR ?_
  intro p e s m args below meth c s₁ Bd hml0 hP hK
  obtain ⟨rfl, hZ, hh⟩ := hP
  have X0 : Stand p l e R s m _ below meth c s₁ [] 0 0 := Stand.of_body Bd
  obtain ⟨t, o, h1, h2⟩ := body p e s m below meth c s₁ Bd.exec Bd.bytes hml0 (findClass_of_methodNamed Bd.named) (name_of_methodNamed Bd.named Bd.method).1 Bd.returns Bd.notSynchronized hZ X0 (by rw [← hh, Bd.state]; rfl)
  exact ⟨t, o, castTop (ef m) h1, h2⟩
variable {own : String} {index : Nat} {y z : MethodName} {bytes : ByteArray} {ml W : Nat} {rt : Option FieldType} {rm : Room} {as : Array Value}
theorem own_callS (X : Stand p l e R s m args below meth c T locs cells slots) (hx : p.tables.exec = Jvm.exec) (hZ : Z.Warmed39 s.vm) (hown : s.vm.findClass own = some m.cls)
    (w1 : (Jvm.Cond.methodLink own index y).before a0 Z = true) (w2 : (Jvm.Cond.static y).before a0 Z = true) (w3 : (Jvm.Cond.initialized y.cls).before a0 Z = true) (w4 : (Jvm.Cond.code y bytes ml rt).before a0 Z = true)
    (hy : y.cls ≠ "java/lang/invoke/MethodHandle" ∧ y.cls ≠ "java/lang/invoke/VarHandle") (hM : OMet l Z y bytes ml rt [] rm as h Q) (hf : rm.frames + 1 ≤ R.frames) (hl : W + (ml + 11) + rm.locals ≤ R.locals)
    {g : JFrame} (hg : g.method = m) (hsz : g.locals.size = c.maxLocals) {argsL rest : List Value} (hlen : ∀ sig, parseMethodDescriptor y.desc = some sig → argsL.length = sig.parameters.length) (hstack : g.stack = argsL.reverse ++ rest)
    (hW : 2 * g.monitorRoom + (rest.map fun v => v.category).sum ≤ W) (hd : decode c.code g.pc = .ok (.invokestatic index, 3)) (ha : argsL.toArray = as) (eT : T.heap = h) (hc : cells + rm.cells ≤ R.cells) (hs : slots + rm.slots ≤ R.slots) :
    ∃ v T' L, Stand p l e R s m args below meth c T' (locs ++ L) (cells + rm.cells) (slots + rm.slots) ∧ Q v T'.heap L ∧ ∀ t, Steps p.tables e below (T'.setTop { g with pc := g.pc + 3, stack := v.toList ++ rest }) t → Steps p.tables e below (T.setTop g) t := by
  obtain ⟨v, _, ⟨T3, L3, k3, n3⟩, -, X3, ⟨Lc3, hQ3, l3, y3, z3⟩, st3⟩ := Jvm.LawKit.callS X hx (y := y) hown (mvT hZ w1) (mvT hZ w2) (mvT hZ w3) (mvT hZ w4) hy (backOf (W := W) hM hZ w4 w3 hf hl) hg hsz hlen hstack hW hd (fun _ _ => ⟨ha, eT, hc, hs⟩)
  dsimp only [Pt.U, Pt.locs, Pt.cells, Pt.slots] at X3 l3 y3 z3 st3 hQ3
  subst l3 y3 z3
  exact ⟨v, T3, Lc3, X3, hQ3, st3⟩
theorem own_callSP {v0 : Option Value} (X : Stand p l e R s m args below meth c T locs cells slots) (hx : p.tables.exec = Jvm.exec) (hZ : Z.Warmed39 s.vm) (hown : s.vm.findClass own = some m.cls)
    (w1 : (Jvm.Cond.methodLink own index y).before a0 Z = true) (w2 : (Jvm.Cond.static y).before a0 Z = true) (w3 : (Jvm.Cond.initialized y.cls).before a0 Z = true) (w4 : (Jvm.Cond.code y bytes ml rt).before a0 Z = true)
    (hy : y.cls ≠ "java/lang/invoke/MethodHandle" ∧ y.cls ≠ "java/lang/invoke/VarHandle") (hM : OPure l Z y bytes ml rt [] rm as h v0) (hf : rm.frames + 1 ≤ R.frames) (hl : W + (ml + 11) + rm.locals ≤ R.locals)
    {g : JFrame} (hg : g.method = m) (hsz : g.locals.size = c.maxLocals) {argsL rest : List Value} (hlen : ∀ sig, parseMethodDescriptor y.desc = some sig → argsL.length = sig.parameters.length) (hstack : g.stack = argsL.reverse ++ rest)
    (hW : 2 * g.monitorRoom + (rest.map fun v => v.category).sum ≤ W) (hd : decode c.code g.pc = .ok (.invokestatic index, 3)) (ha : argsL.toArray = as) (eT : T.heap = h) (hc : cells + rm.cells ≤ R.cells) (hs : slots + rm.slots ≤ R.slots) :
    ∃ T', Stand p l e R s m args below meth c T' locs (cells + rm.cells) (slots + rm.slots) ∧ T'.heap = h ∧ ∀ t, Steps p.tables e below (T'.setTop { g with pc := g.pc + 3, stack := v0.toList ++ rest }) t → Steps p.tables e below (T.setTop g) t := by
  obtain ⟨v, T', L, X', ⟨rfl, rfl, e'⟩, st⟩ := own_callS X hx hZ hown w1 w2 w3 w4 hy hM hf hl hg hsz hlen hstack hW hd ha eT hc hs
  rw [List.append_nil] at X'
  exact ⟨T', X', e', st⟩
theorem own_callI (X : Stand p l e R s m args below meth c T locs cells slots) (hx : p.tables.exec = Jvm.exec) (hZ : Z.Warmed39 s.vm) (hy1 : y.name = "<init>") (hown : s.vm.findClass own = some m.cls)
    (w1 : (Jvm.Cond.methodLink own index y).before a0 Z = true) (w2 : (Jvm.Cond.instanceMethod y).before a0 Z = true) (w4 : (Jvm.Cond.code y bytes ml none).before a0 Z = true) (w3 : (Jvm.Cond.initialized y.cls).before a0 Z = true)
    (hy : y.cls ≠ "java/lang/invoke/MethodHandle" ∧ y.cls ≠ "java/lang/invoke/VarHandle") (hM : OMet l Z y bytes ml none [] rm as h Q) (hf : rm.frames + 1 ≤ R.frames) (hl : W + (ml + 11) + rm.locals ≤ R.locals) {a : Addr}
    {g : JFrame} (hg : g.method = m) (hsz : g.locals.size = c.maxLocals) {argsL rest : List Value} (hlen : ∀ sig, parseMethodDescriptor y.desc = some sig → argsL.length = sig.parameters.length) (hstack : g.stack = argsL.reverse ++ .ref a :: rest)
    (hW : 2 * g.monitorRoom + (rest.map fun v => v.category).sum ≤ W) (hd : decode c.code g.pc = .ok (.invokespecial index, 3)) (ha : (.ref a :: argsL).toArray = as) (eT : T.heap = h) (hc : cells + rm.cells ≤ R.cells) (hs : slots + rm.slots ≤ R.slots) :
    ∃ v T' L, Stand p l e R s m args below meth c T' (locs ++ L) (cells + rm.cells) (slots + rm.slots) ∧ Q v T'.heap L ∧ ∀ t, Steps p.tables e below (T'.setTop { g with pc := g.pc + 3, stack := v.toList ++ rest }) t → Steps p.tables e below (T.setTop g) t := by
  obtain ⟨v, _, ⟨T3, L3, k3, n3⟩, -, X3, ⟨Lc3, hQ3, l3, y3, z3⟩, st3⟩ := X.specialBack hx (y := y) hy1 hown (mvT hZ w1) (mvT hZ w2) (mvT hZ w4) hy (backOf (W := W) hM hZ w4 w3 hf hl) hg hsz (Steps.refl _) (a := a) hlen hstack hW hd (fun _ _ => ⟨ha, eT, hc, hs⟩)
  dsimp only [Pt.U, Pt.locs, Pt.cells, Pt.slots] at X3 l3 y3 z3 st3 hQ3
  subst l3 y3 z3
  exact ⟨v, T3, Lc3, X3, hQ3, fun t k => st3.trans k⟩
theorem own_callIP {v0 : Option Value} (X : Stand p l e R s m args below meth c T locs cells slots) (hx : p.tables.exec = Jvm.exec) (hZ : Z.Warmed39 s.vm) (hy1 : y.name = "<init>") (hown : s.vm.findClass own = some m.cls)
    (w1 : (Jvm.Cond.methodLink own index y).before a0 Z = true) (w2 : (Jvm.Cond.instanceMethod y).before a0 Z = true) (w4 : (Jvm.Cond.code y bytes ml none).before a0 Z = true) (w3 : (Jvm.Cond.initialized y.cls).before a0 Z = true)
    (hy : y.cls ≠ "java/lang/invoke/MethodHandle" ∧ y.cls ≠ "java/lang/invoke/VarHandle") (hM : OPure l Z y bytes ml none [] rm as h v0) (hf : rm.frames + 1 ≤ R.frames) (hl : W + (ml + 11) + rm.locals ≤ R.locals) {a : Addr}
    {g : JFrame} (hg : g.method = m) (hsz : g.locals.size = c.maxLocals) {argsL rest : List Value} (hlen : ∀ sig, parseMethodDescriptor y.desc = some sig → argsL.length = sig.parameters.length) (hstack : g.stack = argsL.reverse ++ .ref a :: rest)
    (hW : 2 * g.monitorRoom + (rest.map fun v => v.category).sum ≤ W) (hd : decode c.code g.pc = .ok (.invokespecial index, 3)) (ha : (.ref a :: argsL).toArray = as) (eT : T.heap = h) (hc : cells + rm.cells ≤ R.cells) (hs : slots + rm.slots ≤ R.slots) :
    ∃ T', Stand p l e R s m args below meth c T' locs (cells + rm.cells) (slots + rm.slots) ∧ T'.heap = h ∧ ∀ t, Steps p.tables e below (T'.setTop { g with pc := g.pc + 3, stack := v0.toList ++ rest }) t → Steps p.tables e below (T.setTop g) t := by
  obtain ⟨v, T', L, X', ⟨rfl, rfl, e'⟩, st⟩ := own_callI X hx hZ hy1 hown w1 w2 w4 w3 hy hM hf hl hg hsz hlen hstack hW hd ha eT hc hs
  rw [List.append_nil] at X'
  exact ⟨T', X', e', st⟩
theorem own_callV {C : String} (X : Stand p l e R s m args below meth c T locs cells slots) (hx : p.tables.exec = Jvm.exec) (hZ : Z.Warmed39 s.vm) (hown : s.vm.findClass own = some m.cls)
    (w1 : (Jvm.Cond.methodLink own index y).before a0 Z = true) (w2 : (Jvm.Cond.declares y).before a0 Z = true) (hnf : NotFace s y) (ws : (Jvm.Cond.selects C y z).before a0 Z = true) (wi : (Jvm.Cond.instanceMethod z).before a0 Z = true)
    (w4 : (Jvm.Cond.code z bytes ml rt).before a0 Z = true) (w3 : (Jvm.Cond.initialized z.cls).before a0 Z = true)
    (hy : y.cls ≠ "java/lang/invoke/MethodHandle" ∧ y.cls ≠ "java/lang/invoke/VarHandle") (hM : OMet l Z z bytes ml rt [] rm as h Q) (hf : rm.frames + 1 ≤ R.frames) (hl : W + (ml + 11) + rm.locals ≤ R.locals) {a : Addr} (E : Exa Z h a C)
    {g : JFrame} (hg : g.method = m) (hsz : g.locals.size = c.maxLocals) {argsL rest : List Value} (hlen : ∀ sig, parseMethodDescriptor y.desc = some sig → argsL.length = sig.parameters.length) (hstack : g.stack = argsL.reverse ++ .ref a :: rest)
    (hW : 2 * g.monitorRoom + (rest.map fun v => v.category).sum ≤ W) (hd : decode c.code g.pc = .ok (.invokevirtual index, 3)) (ha : (.ref a :: argsL).toArray = as) (eT : T.heap = h) (hc : cells + rm.cells ≤ R.cells) (hs : slots + rm.slots ≤ R.slots) :
    ∃ v T' L, Stand p l e R s m args below meth c T' (locs ++ L) (cells + rm.cells) (slots + rm.slots) ∧ Q v T'.heap L ∧ ∀ t, Steps p.tables e below (T'.setTop { g with pc := g.pc + 3, stack := v.toList ++ rest }) t → Steps p.tables e below (T.setTop g) t := by
  obtain ⟨cq, kq, qa, qb, qc⟩ := isOf hZ eT E
  obtain ⟨v, _, ⟨T3, L3, k3, n3⟩, -, X3, ⟨Lc3, hQ3, l3, y3, z3⟩, st3⟩ := X.virtualBack hx (y := y) (z := z) hown (mvT hZ w1) (mvT hZ w2) hnf (mvT hZ ws) (mvT hZ wi) hy (backOf (W := W) hM hZ w4 w3 hf hl) qa qc hg hsz (Steps.refl _) hlen hstack hW hd (fun _ _ => ⟨ha, eT, hc, hs⟩)
  dsimp only [Pt.U, Pt.locs, Pt.cells, Pt.slots] at X3 l3 y3 z3 st3 hQ3
  subst l3 y3 z3
  exact ⟨v, T3, Lc3, X3, hQ3, fun t k => st3.trans k⟩
theorem own_callVP {C : String} {v0 : Option Value} (X : Stand p l e R s m args below meth c T locs cells slots) (hx : p.tables.exec = Jvm.exec) (hZ : Z.Warmed39 s.vm) (hown : s.vm.findClass own = some m.cls)
    (w1 : (Jvm.Cond.methodLink own index y).before a0 Z = true) (w2 : (Jvm.Cond.declares y).before a0 Z = true) (hnf : NotFace s y) (ws : (Jvm.Cond.selects C y z).before a0 Z = true) (wi : (Jvm.Cond.instanceMethod z).before a0 Z = true)
    (w4 : (Jvm.Cond.code z bytes ml rt).before a0 Z = true) (w3 : (Jvm.Cond.initialized z.cls).before a0 Z = true)
    (hy : y.cls ≠ "java/lang/invoke/MethodHandle" ∧ y.cls ≠ "java/lang/invoke/VarHandle") (hM : OPure l Z z bytes ml rt [] rm as h v0) (hf : rm.frames + 1 ≤ R.frames) (hl : W + (ml + 11) + rm.locals ≤ R.locals) {a : Addr} (E : Exa Z h a C)
    {g : JFrame} (hg : g.method = m) (hsz : g.locals.size = c.maxLocals) {argsL rest : List Value} (hlen : ∀ sig, parseMethodDescriptor y.desc = some sig → argsL.length = sig.parameters.length) (hstack : g.stack = argsL.reverse ++ .ref a :: rest)
    (hW : 2 * g.monitorRoom + (rest.map fun v => v.category).sum ≤ W) (hd : decode c.code g.pc = .ok (.invokevirtual index, 3)) (ha : (.ref a :: argsL).toArray = as) (eT : T.heap = h) (hc : cells + rm.cells ≤ R.cells) (hs : slots + rm.slots ≤ R.slots) :
    ∃ T', Stand p l e R s m args below meth c T' locs (cells + rm.cells) (slots + rm.slots) ∧ T'.heap = h ∧ ∀ t, Steps p.tables e below (T'.setTop { g with pc := g.pc + 3, stack := v0.toList ++ rest }) t → Steps p.tables e below (T.setTop g) t := by
  obtain ⟨v, T', L, X', ⟨rfl, rfl, e'⟩, st⟩ := own_callV X hx hZ hown w1 w2 hnf ws wi w4 w3 hy hM hf hl E hg hsz hlen hstack hW hd ha eT hc hs
  rw [List.append_nil] at X'
  exact ⟨T', X', e', st⟩
theorem own_callR (X : Stand p l e R s m args below meth c T locs cells slots) (hx : p.tables.exec = Jvm.exec) (hZ : Z.Warmed39 s.vm) (hown : s.vm.findClass own = some m.cls)
    (w1 : (Jvm.Cond.methodLink own index y).before a0 Z = true) (w2 : (Jvm.Cond.instanceMethod y).before a0 Z = true) (ws : (Jvm.Cond.selects y.cls y y).before a0 Z = true) (wp : (Jvm.Cond.privateMethod y).before a0 Z = true)
    (w4 : (Jvm.Cond.code y bytes ml rt).before a0 Z = true) (w3 : (Jvm.Cond.initialized y.cls).before a0 Z = true)
    (hy : y.cls ≠ "java/lang/invoke/MethodHandle" ∧ y.cls ≠ "java/lang/invoke/VarHandle") (hM : OMet l Z y bytes ml rt [] rm as h Q) (hf : rm.frames + 1 ≤ R.frames) (hl : W + (ml + 11) + rm.locals ≤ R.locals) {a : Addr} {C : String} (E : Exa Z h a C)
    {g : JFrame} (hg : g.method = m) (hsz : g.locals.size = c.maxLocals) {argsL rest : List Value} (hlen : ∀ sig, parseMethodDescriptor y.desc = some sig → argsL.length = sig.parameters.length) (hstack : g.stack = argsL.reverse ++ .ref a :: rest)
    (hW : 2 * g.monitorRoom + (rest.map fun v => v.category).sum ≤ W) (hd : decode c.code g.pc = .ok (.invokevirtual index, 3)) (ha : (.ref a :: argsL).toArray = as) (eT : T.heap = h) (hc : cells + rm.cells ≤ R.cells) (hs : slots + rm.slots ≤ R.slots) :
    ∃ v T' L, Stand p l e R s m args below meth c T' (locs ++ L) (cells + rm.cells) (slots + rm.slots) ∧ Q v T'.heap L ∧ ∀ t, Steps p.tables e below (T'.setTop { g with pc := g.pc + 3, stack := v.toList ++ rest }) t → Steps p.tables e below (T.setTop g) t := by
  obtain ⟨cq, qa, qb⟩ := E.cell
  obtain ⟨v, _, ⟨T3, L3, k3, n3⟩, -, X3, ⟨Lc3, hQ3, l3, y3, z3⟩, st3⟩ := X.privateBack hx (y := y) hown (mvT hZ w1) (mvT hZ w2) (mvT hZ ws) (Cond.privateMethod_at (mvP hZ wp (args := #[]))) (mvT hZ w4) hy (backOf (W := W) hM hZ w4 w3 hf hl) hg hsz (Steps.refl _) (a := a) (by rw [eT]; exact qa) qb hlen hstack hW hd (fun _ _ => ⟨ha, eT, hc, hs⟩)
  dsimp only [Pt.U, Pt.locs, Pt.cells, Pt.slots] at X3 l3 y3 z3 st3 hQ3
  subst l3 y3 z3
  exact ⟨v, T3, Lc3, X3, hQ3, fun t k => st3.trans k⟩
theorem own_callRP {v0 : Option Value} (X : Stand p l e R s m args below meth c T locs cells slots) (hx : p.tables.exec = Jvm.exec) (hZ : Z.Warmed39 s.vm) (hown : s.vm.findClass own = some m.cls)
    (w1 : (Jvm.Cond.methodLink own index y).before a0 Z = true) (w2 : (Jvm.Cond.instanceMethod y).before a0 Z = true) (ws : (Jvm.Cond.selects y.cls y y).before a0 Z = true) (wp : (Jvm.Cond.privateMethod y).before a0 Z = true)
    (w4 : (Jvm.Cond.code y bytes ml rt).before a0 Z = true) (w3 : (Jvm.Cond.initialized y.cls).before a0 Z = true)
    (hy : y.cls ≠ "java/lang/invoke/MethodHandle" ∧ y.cls ≠ "java/lang/invoke/VarHandle") (hM : OPure l Z y bytes ml rt [] rm as h v0) (hf : rm.frames + 1 ≤ R.frames) (hl : W + (ml + 11) + rm.locals ≤ R.locals) {a : Addr} {C : String} (E : Exa Z h a C)
    {g : JFrame} (hg : g.method = m) (hsz : g.locals.size = c.maxLocals) {argsL rest : List Value} (hlen : ∀ sig, parseMethodDescriptor y.desc = some sig → argsL.length = sig.parameters.length) (hstack : g.stack = argsL.reverse ++ .ref a :: rest)
    (hW : 2 * g.monitorRoom + (rest.map fun v => v.category).sum ≤ W) (hd : decode c.code g.pc = .ok (.invokevirtual index, 3)) (ha : (.ref a :: argsL).toArray = as) (eT : T.heap = h) (hc : cells + rm.cells ≤ R.cells) (hs : slots + rm.slots ≤ R.slots) :
    ∃ T', Stand p l e R s m args below meth c T' locs (cells + rm.cells) (slots + rm.slots) ∧ T'.heap = h ∧ ∀ t, Steps p.tables e below (T'.setTop { g with pc := g.pc + 3, stack := v0.toList ++ rest }) t → Steps p.tables e below (T.setTop g) t := by
  obtain ⟨v, T', L, X', ⟨rfl, rfl, e'⟩, st⟩ := own_callR X hx hZ hown w1 w2 ws wp w4 w3 hy hM hf hl E hg hsz hlen hstack hW hd ha eT hc hs
  rw [List.append_nil] at X'
  exact ⟨T', X', e', st⟩
/-- the array at a has n places; place j holds f j -/
def OAr (Z : State) (h : Heap) (a : Addr) (ty : FieldType) (n : Nat) (f : Nat → Value) : Prop := ∃ c : Cell, Arr Z h a c ty ∧ c.slots.size = n ∧ ∀ j, j < n → c.slots[j]? = some (f j)
section OwnArr
variable {h' : Heap} {a b : Addr} {ty : FieldType} {n sl : Nat} {f f' : Nat → Value} {v : Value} {k : ClassId} {i : Int32}
theorem OAr.lt (F : OAr Z h a ty n f) : a < h.size := by obtain ⟨c, A, -⟩ := F; exact A.lt
theorem OAr.ext (F : OAr Z h a ty n f) (E : Ext h h') : OAr Z h' a ty n f := by obtain ⟨c, A, r⟩ := F; exact ⟨c, A.ext E, r⟩
theorem OAr.other (F : OAr Z h a ty n f) (W : Wr h h' b sl v) (q : a ≠ b) : OAr Z h' a ty n f := by obtain ⟨c, A, r⟩ := F; exact ⟨c, A.other W q, r⟩
theorem OAr.keep {ws : List Addr} (F : OAr Z h a ty n f) (K : Keep h h' ws) (q : a ∉ ws) : OAr Z h' a ty n f := by obtain ⟨c, A, r⟩ := F; exact ⟨c, ⟨K.2.1 a c A.1 q, A.2⟩, r⟩
theorem OAr.cong (F : OAr Z h a ty n f) (q : ∀ j, j < n → f j = f' j) : OAr Z h a ty n f' := by obtain ⟨c, A, S, H⟩ := F; exact ⟨c, A, S, fun j hj => by rw [← q j hj]; exact H j hj⟩
theorem OAr.new (A : Arr Z h a (newA k ty i) ty) : OAr Z h a ty i.toNatClampNeg (fun _ => defaultValue ty) := ⟨_, A, sz_new _ _ _, fun j hj => by simp [newA, hj]⟩
theorem OAr.set {c : Cell} (A : Arr Z h a c ty) (S : c.slots.size = n) (H : ∀ j, j < n → c.slots[j]? = some (f j)) (W : Wr h h' a sl v) : OAr Z h' a ty n (fun j => if j = sl then v else f j) := by
  refine ⟨_, A.same W, by rw [sz_set]; exact S, fun j hj => ?_⟩
  by_cases q : j = sl
  · subst q
    simp [Cell.setSlot, S, hj]
  · simp only [q, if_false, Cell.setSlot]
    rw [Array.getElem?_setIfInBounds_ne (Ne.symm q)]
    exact H j hj
theorem own_in {c : Cell} (S : c.slots.size = n) (h0 : ¬ i < 0) (h1 : i.toNatClampNeg < n) : ¬ (i < 0 ∨ c.slots.size ≤ i.toNatClampNeg) := by
  rintro (q | q)
  · exact h0 q
  · omega
/-- the clone of an array -/
theorem own_clone {own ad : String} {index : Nat} (X : Stand p l e R s m args below meth c T locs cells slots) (hx : p.tables.exec = Jvm.exec) (hZ : Z.Warmed39 s.vm) (hown : s.vm.findClass own = some m.cls)
    (w1 : (Jvm.Cond.methodLink own index ⟨ad, "clone", "()Ljava/lang/Object;"⟩).before a0 Z = true) (w2 : (Jvm.Cond.sameMethod ad "java/lang/Object" "clone" "()Ljava/lang/Object;").before a0 Z = true) (w3 : (Jvm.Cond.native ⟨"java/lang/Object", "clone", "()Ljava/lang/Object;"⟩).before a0 Z = true)
    (w4 : (Jvm.Cond.instanceMethod ⟨"java/lang/Object", "clone", "()Ljava/lang/Object;"⟩).before a0 Z = true) (w5 : (Jvm.Cond.selects ad ⟨ad, "clone", "()Ljava/lang/Object;"⟩ ⟨"java/lang/Object", "clone", "()Ljava/lang/Object;"⟩).before a0 Z = true) (w6 : (Jvm.Cond.castable ad "java/lang/Cloneable").before a0 Z = true)
    (eT : T.heap = h) (F : OAr Z h a ty n f) (E : Exa Z h a ad) (hfit : ∀ j, j < n → fits ty (f j) = true) {g : JFrame} (hg : g.method = m) (hsize : g.locals.size = c.maxLocals) {rest : List Value} (hst : g.stack = .ref a :: rest) (hd : decode c.code g.pc = .ok (.invokevirtual index, 3))
    (hf : 1 ≤ R.frames) {W : Nat} (hW : 2 * g.monitorRoom + (rest.map fun v => v.category).sum ≤ W) (hl : W + 14 ≤ R.locals) {cap : Nat} (hcap : n ≤ cap) (hc : cells + 1 ≤ R.cells) (hsl : slots + cap ≤ R.slots) :
    ∃ T' h', Stand p l e R s m args below meth c T' locs (cells + 1) (slots + cap) ∧ T'.heap = h' ∧ Ext h h' ∧ OAr Z h' h.size ty n f ∧ Exa Z h' h.size ad ∧
      ∀ target, Steps p.tables e below (T'.setTop { g with pc := g.pc + 3, stack := .ref h.size :: rest }) target → Steps p.tables e below (T.setTop g) target := by
  obtain ⟨cl, A, S, H⟩ := F
  have FC : FitC Z cl := fitC_of A fun i hi v hv => by rw [H i (S ▸ hi)] at hv; cases hv; exact hfit i (S ▸ hi)
  obtain ⟨T', h', X', e', ex, A', E', st⟩ := cloneA X hx hZ hown w1 w2 w3 w4 w5 w6 eT A E FC hg hsize hst hd hf hW hl (cap := cap) (by rw [S]; exact hcap) hc hsl
  exact ⟨T', h', X', e', ex, ⟨cloneOf cl, A', S, H⟩, E', st⟩
end OwnArr
theorem own_nat {i : Nat} (hi : i < 2 ^ 31) : (Int32.ofNat i).toNatClampNeg = i ∧ ¬ Int32.ofNat i < 0 ∧ (Int32.ofNat i).toInt = i := by
  have q : (Int32.ofNat i).toInt = i := Int32.toInt_ofNat_of_lt hi
  have z : (0 : Int32).toInt = 0 := by decide
  refine ⟨by rw [Int32.toNatClampNeg, q]; simp, ?_, q⟩
  rw [Int32.lt_iff_toInt_lt, q, z]; omega
theorem own_lt {i n : Nat} (hi : i < 2 ^ 31) (hn : n < 2 ^ 31) : Int32.ofNat i < Int32.ofNat n ↔ i < n := by
  rw [Int32.lt_iff_toInt_lt, (own_nat hi).2.2, (own_nat hn).2.2]; omega
theorem own_up (i : Nat) : Int32.ofNat i + (1 : Int32) = Int32.ofNat (i + 1) := (Int32.ofNat_add i 1).symm
/-- a static stands where none of the written cells holds statics -/
theorem own_sta_keep {h' : Heap} {C n d : String} {v : Value} {ws : List Addr} (F : Sta Z h C n d v) (K : Keep h h' ws) (q : ∀ w ∈ ws, ∃ c : Cell, h[w]? = some c ∧ c.vm.isStatics = false) : Sta Z h' C n d v := by
  obtain ⟨cf, i, k, f, st, cell, h1, h2, h3, h4, h5, h6, h7⟩ := F
  refine ⟨cf, i, k, f, st, cell, h1, h2, h3, h4, K.2.1 st cell h5 (fun z => ?_), h6, h7⟩
  obtain ⟨c, e1, e2⟩ := q st z
  rw [h5] at e1; cases e1
  rw [h6] at e2; cases e2
theorem own_pl_exa {a : Addr} {C : String} (E : Exa Z h a C) : ∃ c : Cell, h[a]? = some c ∧ c.vm.isStatics = false := by obtain ⟨c, k, h1, -, -, h4, -⟩ := E; exact ⟨c, h1, h4⟩
theorem own_pl_arr {a : Addr} {ty : FieldType} {n : Nat} {f : Nat → Value} (F : OAr Z h a ty n f) : ∃ c : Cell, h[a]? = some c ∧ c.vm.isStatics = false := by obtain ⟨c, A, -⟩ := F; exact ⟨c, A.1, A.plain⟩
theorem own_shr0 (x : Int32) : x >>> ((0 : Int32) &&& 31) = x := Int32.toInt_inj.mp (by rw [c_ishr x 0 0 (by decide)]; simp)
abbrev OLawQ (n0 : Nat) : Option Value → Heap → List Loc → Prop := fun v _ L => v = some (.int (1 : Int32)) ∧ Fr n0 L
/-- a boolean as the machine's int -/
def OB (b : Bool) : Int32 := if b then 1 else 0
theorem own_b1 : nar .boolean (1 : Int32) = 1 := by decide
theorem own_b0 : nar .boolean (0 : Int32) = 0 := by decide
theorem own_nb (b : Bool) : nar .boolean (OB b) = OB b := by cases b <;> decide
end OwnKit
section OwnWide
variable {p : Program} {l : Launch} {e : Env} {R : Room} {s : State} {m : MethodId} {args : Array Value} {below : List Frame} {meth : Method} {c : Code} {T : State} {locs : List Loc} {cells slots : Nat} {Z : State} {a0 : Array Value} {h h0 : Heap} {EL : List (String × Nat)} {vm0 : Vm} {k0 : Nat} {Q : Option Value → Heap → List Loc → Prop}
def OGoW (p : Program) (e : Env) (below : List Frame) (s : State) (R : Room) (Z : State) (EL : List (String × Nat)) (Q : Option Value → Heap → List Loc → Prop) (U : State) : Prop :=
  ∃ s₂ o, Steps p.tables e below U s₂ ∧ s₂.status = .running ∧ Ended s₂ below o ∧ ∃ v L, o = .returned v ∧ Q v s₂.heap L ∧ CHr Z EL s.vm s.heap s₂.vm s₂.heap ∧ ReturnedEndW s o s₂ L R.cells R.slots
theorem own_stW {A B : State} (hs : ∀ t, Steps p.tables e below A t → Steps p.tables e below B t) (k : OGoW p e below s R Z EL Q A) : OGoW p e below s R Z EL Q B := by
  obtain ⟨t, o, h1, h2⟩ := k
  exact ⟨t, o, hs t h1, h2⟩
theorem own_retW {v : Option Value} {U : State} (X : Stand p l e R (s.setVm vm0) m args below meth c T locs cells slots) (hlk : meth.locks = false) (hv : meth.sig.returnType = none → v = none) (hc : cells ≤ R.cells) (hs : slots ≤ R.slots)
    (hS : s.Since vm0 k0) (eT : T.heap = h) (es : s.heap = h0) (hk : k0 ≤ h.size) (hZ : Z.Warmed39 vm0) (hEL : EW Z a0 EL) (CH : CHr Z EL s.vm h0 vm0 h) (hq : Q v T.heap locs)
    (st : ∀ fs, (∀ (f : JFrame) (acts : List Action), f.method = m → f.locked = none → f.entered = [] → (doReturn e (T.setTop f) acts v).1 = T.setFrames fs) → Steps p.tables e below U (T.setFrames fs)) : OGoW p e below s R Z EL Q U := by
  subst eT es
  obtain ⟨fs, hr, hrun, hended, hend⟩ := X.leaveW hS hk (v := v) hv hlk
  have q := CHv.at X hZ hEL CH.1
  exact ⟨_, _, st fs hr, hrun, hended, v, locs, rfl, hq, CH.trans q, hend.1, hend.2.1, hend.2.2.1, hend.2.2.2.mono hc hs⟩
theorem own_retWV (X : Stand p l e R (s.setVm vm0) m args below meth c T locs cells slots) (hx : p.tables.exec = Jvm.exec) (hlk : meth.locks = false) {pc : Nat} {Ls : Array Slot} (hret : meth.sig.returnType = none) (hd : decode c.code pc = .ok (.return_, 1)) (hc : cells ≤ R.cells) (hs : slots ≤ R.slots)
    (hS : s.Since vm0 k0) (eT : T.heap = h) (es : s.heap = h0) (hk : k0 ≤ h.size) (hZ : Z.Warmed39 vm0) (hEL : EW Z a0 EL) (CH : CHr Z EL s.vm h0 vm0 h) (hq : Q none T.heap locs) : OGoW p e below s R Z EL Q (T.setTop (mkF m pc Ls [])) :=
  own_retW X hlk (fun _ => rfl) hc hs hS eT es hk hZ hEL CH hq fun fs hr => X.returnOut hx hret hd hr
theorem own_retWN (X : Stand p l e R (s.setVm vm0) m args below meth c T locs cells slots) (hx : p.tables.exec = Jvm.exec) (hlk : meth.locks = false) {pc : Nat} {Ls : Array Slot} {z : Int32} {t : FieldType} {rest : List Value} (hret : meth.sig.returnType = some t) (ht : t = .boolean ∨ t = .byte ∨ t = .char ∨ t = .short)
    (hd : decode c.code pc = .ok (.ireturn, 1)) (hc : cells ≤ R.cells) (hs : slots ≤ R.slots)
    (hS : s.Since vm0 k0) (eT : T.heap = h) (es : s.heap = h0) (hk : k0 ≤ h.size) (hZ : Z.Warmed39 vm0) (hEL : EW Z a0 EL) (CH : CHr Z EL s.vm h0 vm0 h) (hq : Q (some (.int (nar t z))) T.heap locs) : OGoW p e below s R Z EL Q (T.setTop (mkF m pc Ls (.int z :: rest))) :=
  own_retW X hlk (fun q => by rw [hret] at q; cases q) hc hs hS eT es hk hZ hEL CH hq fun fs hr => retN X hx hret ht hd hr
theorem own_retWA (X : Stand p l e R (s.setVm vm0) m args below meth c T locs cells slots) (hx : p.tables.exec = Jvm.exec) (hlk : meth.locks = false) {pc : Nat} {Ls : Array Slot} {z : Value} {rest : List Value} {t : FieldType} (hret : meth.sig.returnType = some t) (hz : z.isRef = true) (ht : t.isReference = true)
    (hd : decode c.code pc = .ok (.areturn, 1)) (hc : cells ≤ R.cells) (hs : slots ≤ R.slots)
    (hS : s.Since vm0 k0) (eT : T.heap = h) (es : s.heap = h0) (hk : k0 ≤ h.size) (hZ : Z.Warmed39 vm0) (hEL : EW Z a0 EL) (CH : CHr Z EL s.vm h0 vm0 h) (hq : Q (some z) T.heap locs) : OGoW p e below s R Z EL Q (T.setTop (mkF m pc Ls (z :: rest))) :=
  own_retW X hlk (fun q => by rw [hret] at q; cases q) hc hs hS eT es hk hZ hEL CH hq fun fs hr => by
    show Steps p.tables e below (T.setTop { method := m, pc := pc, locals := Ls, stack := _ :: rest, locked := none }) _
    jvm_step X.here [X.here.top, hx, hd, X.method', hret, hz, ht]
    first | (intro acts; rw [hr _ acts rfl rfl rfl]) | rw [hr _ _ rfl rfl rfl]
    exact Steps.refl _
abbrev OMetW (l : Launch) (Z : State) (EL : List (String × Nat)) (y : MethodName) (bytes : ByteArray) (ml : Nat) (rt : Option FieldType) (ws : List Jvm.Cond) (R : Room) (as : Array Value) (h0 : Heap) (Q : Option Value → Heap → List Loc → Prop) : Prop :=
  MetFree l y (head1 (Jvm.Cond.code y bytes ml rt :: ws) R) (fun a U => a = as ∧ Z.Warmed39 U.vm ∧ U.heap = h0 ∧ CHv Z EL U.vm h0) (fun _ _ _ _ _ => True) (fun _ U o U' => ∃ v L, o = .returned v ∧ Q v U'.heap L ∧ CHr Z EL U.vm U.heap U'.vm U'.heap ∧ ReturnedEndW U o U' L R.cells R.slots)
theorem own_bodyW {y : MethodName} {bytes : ByteArray} {ml : Nat} {rt : Option FieldType} {ws : List Jvm.Cond} {as : Array Value} {L0 : Array Slot} (hp : plainFor y = true) (ef : ∀ m, entryFrame m as ml = mkF m 0 L0 [])
    (body : ∀ p e s m below meth c T, p.tables.exec = Jvm.exec → c.code = bytes → c.maxLocals = ml → s.vm.findClass y.cls = some m.cls → meth.name = y.name → meth.sig.returnType = rt → meth.locks = false → Z.Warmed39 s.vm →
      Stand p l e R (s.setVm s.vm) m as below meth c T [] 0 0 → T.heap = h0 → s.heap = h0 → s.Since s.vm h0.size → CHr Z EL s.vm h0 s.vm h0 → OGoW p e below s R Z EL Q (T.setTop (mkF m 0 L0 []))) : OMetW l Z EL y bytes ml rt ws R as h0 Q := by
  refine MetFree.of_bodySF hp hisR ?_
  intro p e s m args below meth c s₁ Bd hml0 hP hK
  obtain ⟨rfl, hZ, hh, hC⟩ := hP
  have X0 : Stand p l e R s m _ below meth c s₁ [] 0 0 := Stand.of_body Bd
  obtain ⟨t, o, h1, h2⟩ := body p e s m below meth c s₁ Bd.exec Bd.bytes hml0 (findClass_of_methodNamed Bd.named) (name_of_methodNamed Bd.named Bd.method).1 Bd.returns Bd.notSynchronized hZ X0 (by rw [← hh, Bd.state]; rfl) hh ((State.WarmedH.refl s).since _) (CHr.refl hC)
  exact ⟨t, o, castTop (ef m) h1, h2⟩
variable {own : String} {index : Nat} {y z : MethodName} {bytes : ByteArray} {ml W : Nat} {rt : Option FieldType} {rm : Room} {as : Array Value}
theorem own_callIW (X : Stand p l e R (s.setVm vm0) m args below meth c T locs cells slots) (hx : p.tables.exec = Jvm.exec) (hZ : Z.Warmed39 vm0) (hS : s.Since vm0 k0) (hk : k0 ≤ h.size) (hEL : EW Z a0 EL) (CH : CHv Z EL vm0 h) (hy1 : y.name = "<init>") (hown : vm0.findClass own = some m.cls)
    (w1 : (Jvm.Cond.methodLink own index y).before a0 Z = true) (w2 : (Jvm.Cond.instanceMethod y).before a0 Z = true) (w4 : (Jvm.Cond.code y bytes ml none).before a0 Z = true) (w3 : (Jvm.Cond.initialized y.cls).before a0 Z = true)
    (hy : y.cls ≠ "java/lang/invoke/MethodHandle" ∧ y.cls ≠ "java/lang/invoke/VarHandle") (hM : OMetW l Z EL y bytes ml none [] rm as h Q) (hf : rm.frames + 1 ≤ R.frames) (hl : W + (ml + 11) + rm.locals ≤ R.locals) {a : Addr}
    {g : JFrame} (hg : g.method = m) (hsz : g.locals.size = c.maxLocals) {argsL rest : List Value} (hlen : ∀ sig, parseMethodDescriptor y.desc = some sig → argsL.length = sig.parameters.length) (hstack : g.stack = argsL.reverse ++ .ref a :: rest)
    (hW : 2 * g.monitorRoom + (rest.map fun v => v.category).sum ≤ W) (hd : decode c.code g.pc = .ok (.invokespecial index, 3)) (ha : (.ref a :: argsL).toArray = as) (eT : T.heap = h) (hc : cells + rm.cells ≤ R.cells) (hs : slots + rm.slots ≤ R.slots) :
    ∃ v T' L, Stand p l e R (s.setVm T'.vm) m args below meth c T' (locs ++ L) (cells + rm.cells) (slots + rm.slots) ∧ Q v T'.heap L ∧ s.Since T'.vm T'.heap.size ∧ Z.Warmed39 (s.setVm T'.vm).vm ∧ (s.setVm T'.vm).vm.findClass own = some m.cls ∧ CHr Z EL vm0 h T'.vm T'.heap ∧
      ∀ t, Steps p.tables e below (T'.setTop { g with pc := g.pc + 3, stack := v.toList ++ rest }) t → Steps p.tables e below (T.setTop g) t := by
  obtain ⟨v, _, ⟨T3, L3, k3, n3⟩, -, X3, S3, G3, ⟨Lc3, hQ3, l3, y3, z3, C3⟩, st3⟩ := X.specialBackS hx (y := y) hy1 hown (mvT (s := s.setVm vm0) hZ w1) (mvT (s := s.setVm vm0) hZ w2) (mvT (s := s.setVm vm0) hZ w4) hy (backOfSH (W := W) hM hZ w4 w3 hf hl hEL CH) hg hsz (Steps.refl _) (a := a) hlen hstack hW hd (fun _ _ => ⟨ha, eT, hc, hs⟩)
  dsimp only [Pt.U, Pt.locs, Pt.cells, Pt.slots] at X3 S3 G3 l3 y3 z3 st3 hQ3 C3
  subst l3 y3 z3
  obtain ⟨X', S', hZ', hown'⟩ := rebS hS (by rw [eT]; exact hk) X3 S3 G3 hZ hown
  exact ⟨v, T3, Lc3, X', hQ3, S', hZ', hown', C3, fun t k => st3.trans k⟩
theorem own_callSW (X : Stand p l e R (s.setVm vm0) m args below meth c T locs cells slots) (hx : p.tables.exec = Jvm.exec) (hZ : Z.Warmed39 vm0) (hS : s.Since vm0 k0) (hk : k0 ≤ h.size) (hEL : EW Z a0 EL) (CH : CHv Z EL vm0 h) (hown : vm0.findClass own = some m.cls)
    (w1 : (Jvm.Cond.methodLink own index y).before a0 Z = true) (w2 : (Jvm.Cond.static y).before a0 Z = true) (w3 : (Jvm.Cond.initialized y.cls).before a0 Z = true) (w4 : (Jvm.Cond.code y bytes ml rt).before a0 Z = true)
    (hy : y.cls ≠ "java/lang/invoke/MethodHandle" ∧ y.cls ≠ "java/lang/invoke/VarHandle") (hM : OMetW l Z EL y bytes ml rt [] rm as h Q) (hf : rm.frames + 1 ≤ R.frames) (hl : W + (ml + 11) + rm.locals ≤ R.locals)
    {g : JFrame} (hg : g.method = m) (hsz : g.locals.size = c.maxLocals) {argsL rest : List Value} (hlen : ∀ sig, parseMethodDescriptor y.desc = some sig → argsL.length = sig.parameters.length) (hstack : g.stack = argsL.reverse ++ rest)
    (hW : 2 * g.monitorRoom + (rest.map fun v => v.category).sum ≤ W) (hd : decode c.code g.pc = .ok (.invokestatic index, 3)) (ha : argsL.toArray = as) (eT : T.heap = h) (hc : cells + rm.cells ≤ R.cells) (hs : slots + rm.slots ≤ R.slots) :
    ∃ v T' L, Stand p l e R (s.setVm T'.vm) m args below meth c T' (locs ++ L) (cells + rm.cells) (slots + rm.slots) ∧ Q v T'.heap L ∧ s.Since T'.vm T'.heap.size ∧ Z.Warmed39 (s.setVm T'.vm).vm ∧ (s.setVm T'.vm).vm.findClass own = some m.cls ∧ CHr Z EL vm0 h T'.vm T'.heap ∧
      ∀ t, Steps p.tables e below (T'.setTop { g with pc := g.pc + 3, stack := v.toList ++ rest }) t → Steps p.tables e below (T.setTop g) t := by
  obtain ⟨v, _, ⟨T3, L3, k3, n3⟩, -, X3, S3, G3, ⟨Lc3, hQ3, l3, y3, z3, C3⟩, st3⟩ := callSS X hx (y := y) hown (mvT (s := s.setVm vm0) hZ w1) (mvT (s := s.setVm vm0) hZ w2) (mvT (s := s.setVm vm0) hZ w3) (mvT (s := s.setVm vm0) hZ w4) hy (backOfSH (W := W) hM hZ w4 w3 hf hl hEL CH) hg hsz hlen hstack hW hd (fun _ _ => ⟨ha, eT, hc, hs⟩)
  dsimp only [Pt.U, Pt.locs, Pt.cells, Pt.slots] at X3 S3 G3 l3 y3 z3 st3 hQ3 C3
  subst l3 y3 z3
  obtain ⟨X', S', hZ', hown'⟩ := rebS hS (by rw [eT]; exact hk) X3 S3 G3 hZ hown
  exact ⟨v, T3, Lc3, X', hQ3, S', hZ', hown', C3, fun t k => st3.trans k⟩
/-- a String whose value is still null is no booked one -/
theorem own_safe_null {a : Addr} (hal : Z.vm.Alike vm0) (E : Exa Z h a "java/lang/String") (F : Fld Z h a "java/lang/String" "value" "[B" .null) : Safe Z EL vm0 h a := fun B => by
  obtain ⟨pr, hp, u, a', hb, q, rfl, hSl, hy⟩ := B
  rcases hy with rfl | rfl
  · obtain ⟨cS, ⟨⟨h1, -, -, ⟨c1, k1, i1, f1, -⟩, -, -, -, v1, -⟩, -⟩, -⟩ := hSl
    obtain ⟨cell, cf, k, i, f, g1, g2, -, -, -, -, g7⟩ := F
    obtain ⟨k', e1⟩ := ff_back (U := Wst Z vm0 h) hal f1
    have e2 := e1.symm.trans g2
    simp only [Option.some.injEq, Prod.mk.injEq] at e2
    have e3 : some q.sC = some cell := h1.symm.trans g1
    cases e3
    rw [e2.2.2.2, g7] at v1
    cases v1
  · have hd := hSl.hd
    obtain ⟨cS, -, -, h4, -⟩ := hSl
    obtain ⟨cell, k, e1, e2, -⟩ := E
    have e3 : some q.SA = some cell := hd.symm.trans e1
    cases e3
    have e4 : Z.vm.findClass "[B" = some q.SA.cls := by rw [← hal.findClass]; exact h4
    exact ids_ne e2 e4 (by decide) rfl
theorem own_safe_arr {a : Addr} {ty : FieldType} {n : Nat} {f : Nat → Value} (hal : Z.vm.Alike vm0) (F : OAr Z h a ty n f) (ht : ty ≠ .byte) : Safe Z EL vm0 h a := by
  obtain ⟨c, A, -⟩ := F
  exact Safe.arr hal A ht
theorem own_ch0 {vm1 : Vm} {h' : Heap} (g : h.size ≤ h'.size) : CHr Z [] vm0 h vm1 h' := by
  refine ⟨fun pr hp => absurd hp List.not_mem_nil, g, fun y B => ?_⟩
  obtain ⟨pr, hp, -⟩ := B
  exact absurd hp List.not_mem_nil
theorem own_safe0 {a : Addr} : Safe Z [] vm0 h a := fun B => by
  obtain ⟨pr, hp, -⟩ := B
  exact absurd hp List.not_mem_nil
theorem own_arv {a : Addr} {k : ClassId} {ty : FieldType} {zz : Int32} {vs : List Value} {dv : Value} {n : Nat} {f : Nat → Value} (F : Arv Z h a k ty zz vs dv) (hn : zz.toNatClampNeg = n) (hf : ∀ j, j < n → vs.getD j dv = f j) : OAr Z h a ty n f := by
  obtain ⟨c, A, -, S, -, H, -⟩ := F
  exact ⟨c, A, S.trans hn, fun j hj => by rw [H j (by omega), hf j hj]⟩
end OwnWide
/-- a char's byte in a Latin-1 string -/
def own_lb (x : Int32) : Int32 := nar .byte x.toInt8.toInt32
def own_lbs (f : Nat → Int32) (g : Nat → Value) (k j : Nat) : Value := if j < k then .int (own_lb (f j)) else g j
theorem own_lbs0 (f : Nat → Int32) (g : Nat → Value) (n : Nat) : ∀ j, j < n → g j = own_lbs f g 0 j := fun j _ => by simp [own_lbs]
theorem own_lbsS (f : Nat → Int32) (g : Nat → Value) (n i : Nat) (hi : i < 2 ^ 31) : ∀ j, j < n → (if j = (Int32.ofNat i).toNatClampNeg then Value.int (nar .byte (f i).toInt8.toInt32) else own_lbs f g i j) = own_lbs f g (i + 1) j := fun j _ => by
  rw [(own_nat hi).1]
  by_cases q : j = i
  · subst q; simp [own_lbs, own_lb]
  · have e : (j < i + 1) ↔ (j < i) := by omega
    simp [own_lbs, q, e]
theorem own_lbsN (f : Nat → Int32) (g : Nat → Value) (n : Nat) : ∀ j, j < n → own_lbs f g n j = .int (own_lb (f j)) := fun j hj => by simp [own_lbs, hj]
theorem own_st6 {z0 z1 z2 z3 z4 z5 : Value} {s6 : Slot} {v : Int32} (h : One s6) : storeLocals #[.val z0, .val z1, .val z2, .val z3, .val z4, .val z5, s6] 6 (.int v) = some #[.val z0, .val z1, .val z2, .val z3, .val z4, .val z5, .val (.int v)] := by
  rcases h with rfl | ⟨w, rfl, hw⟩
  · rfl
  · cases w <;> first | rfl | (simp [Value.category] at hw)
theorem d8_0 : decode jdk_52_method_21_code 0 = .ok (.iconst 0, 1) := by decide +kernel
theorem d8_1 : decode jdk_52_method_21_code 1 = .ok (.istore 5, 2) := by decide +kernel
theorem d8_3 : decode jdk_52_method_21_code 3 = .ok (.iload 5, 2) := by decide +kernel
theorem d8_5 : decode jdk_52_method_21_code 5 = .ok (.iload 4, 2) := by decide +kernel
theorem d8_7 : decode jdk_52_method_21_code 7 = .ok (.if_icmp .ge 37, 3) := by decide +kernel
theorem d8_44 : decode jdk_52_method_21_code 44 = .ok (.iload 4, 2) := by decide +kernel
theorem d8_46 : decode jdk_52_method_21_code 46 = .ok (.ireturn, 1) := by decide +kernel
theorem d8_10 : decode jdk_52_method_21_code 10 = .ok (.aload_n 0, 1) := by decide +kernel
theorem d8_11 : decode jdk_52_method_21_code 11 = .ok (.iload_n 1, 1) := by decide +kernel
theorem d8_12 : decode jdk_52_method_21_code 12 = .ok (.caload, 1) := by decide +kernel
theorem d8_13 : decode jdk_52_method_21_code 13 = .ok (.istore 6, 2) := by decide +kernel
theorem d8_15 : decode jdk_52_method_21_code 15 = .ok (.iload 6, 2) := by decide +kernel
theorem d8_17 : decode jdk_52_method_21_code 17 = .ok (.sipush 255, 3) := by decide +kernel
theorem d8_20 : decode jdk_52_method_21_code 20 = .ok (.if_icmp .le 6, 3) := by decide +kernel
theorem d8_26 : decode jdk_52_method_21_code 26 = .ok (.aload_n 2, 1) := by decide +kernel
theorem d8_27 : decode jdk_52_method_21_code 27 = .ok (.iload_n 3, 1) := by decide +kernel
theorem d8_28 : decode jdk_52_method_21_code 28 = .ok (.iload 6, 2) := by decide +kernel
theorem d8_30 : decode jdk_52_method_21_code 30 = .ok (.i2b, 1) := by decide +kernel
theorem d8_31 : decode jdk_52_method_21_code 31 = .ok (.bastore, 1) := by decide +kernel
theorem d8_32 : decode jdk_52_method_21_code 32 = .ok (.iinc 1 1, 3) := by decide +kernel
theorem d8_35 : decode jdk_52_method_21_code 35 = .ok (.iinc 3 1, 3) := by decide +kernel
theorem d8_38 : decode jdk_52_method_21_code 38 = .ok (.iinc 5 1, 3) := by decide +kernel
theorem d8_41 : decode jdk_52_method_21_code 41 = .ok (.goto (-38), 3) := by decide +kernel
theorem pn_java_lang_StringUTF16 : plainName "java/lang/StringUTF16" = true := by first | (simp [plainName, overriddenIn]; done) | decide +kernel
theorem ef_8_RIRII (m : MethodId) (x0 : Addr) (x1 : Int32) (x2 : Addr) (x3 : Int32) (x4 : Int32) : entryFrame m #[(.ref x0), (.int x1), (.ref x2), (.int x3), (.int x4)] 7 = mkF m 0 #[.val (.ref x0), .val (.int x1), .val (.ref x2), .val (.int x3), .val (.int x4), .unset, .unset] [] := by first | (simp [entryFrame, mkF, argsToLocals, Value.category]; done) | rfl
set_option maxRecDepth 65536 in
set_option maxHeartbeats 40000000 in
theorem sc1 (l : Launch) (Z : State) (a0 : Array Value) (hw : ∀ d ∈ tables_1, d.before a0 Z = true) (a1 : Addr) (a2 : Addr) (n : Nat) (cf : Nat → Int32) (gf : Nat → Value) (h0 : Heap) (n0 : Nat) (Z0 : n0 ≤ h0.size) (old_a2 : n0 ≤ a2) (ne_a1_a2 : a1 ≠ a2) (A_a1 : OAr Z h0 a1 .char n (fun j => .int (cf j))) (A_a2 : OAr Z h0 a2 .byte n gf) (hn : n < 2 ^ 31) (hc : ∀ j, j < n → ¬ (255 : Int32) < cf j) :
    OMet l Z (⟨"java/lang/StringUTF16", "compress", "([CI[BII)I"⟩ : MethodName) jdk_52_method_21_code 7 (some .int) [] ({ frames := 0, cells := 0, slots := 0, locals := 0 } : Room) #[(.ref a1), (.int (0 : Int32)), (.ref a2), (.int (0 : Int32)), (.int (Int32.ofNat n))] h0 (fun v h' L => v = some (.int (Int32.ofNat n)) ∧ Fr n0 L ∧ Keep h0 h' [a2] ∧ OAr Z h' a2 .byte n (fun j => .int (own_lb (cf j)))) := by
  refine own_body (plainFor_of_name pn_java_lang_StringUTF16) (fun m => ef_8_RIRII m a1 (0 : Int32) a2 (0 : Int32) (Int32.ofNat n)) ?_
  intro p e s m below meth c T0 hx hby hml hown hnm hret hlk hZ X0 e0
  have hown : s.vm.findClass "java/lang/StringUTF16" = some m.cls := hown
  have hml : c.maxLocals = 7 := hml
  have N0 := Fr.nil n0
  have K0 := Keep.refl h0 [a2]
  show OGo p e below s _ _ (T0.setTop (mkF m 0 #[.val (.ref a1), .val (.int (0 : Int32)), .val (.ref a2), .val (.int (0 : Int32)), .val (.int (Int32.ofNat n)), .unset, .unset] []))
  refine own_st (fun tt zk => XS.iconst X0.here hx rfl (hb hby d8_0) zk) ?_
  show OGo p e below s _ _ (T0.setTop (mkF m 1 #[.val (.ref a1), .val (.int (0 : Int32)), .val (.ref a2), .val (.int (0 : Int32)), .val (.int (Int32.ofNat n)), .unset, .unset] [(.int (0 : Int32))]))
  refine own_st (fun tt zk => XS.istore X0.here hx rfl (hb hby d8_1) rfl (l' := #[.val (.ref a1), .val (.int (0 : Int32)), .val (.ref a2), .val (.int (0 : Int32)), .val (.int (Int32.ofNat n)), .val (.int (0 : Int32)), .unset]) rfl zk) ?_
  show OGo p e below s _ _ (T0.setTop (mkF m 3 #[.val (.ref a1), .val (.int (0 : Int32)), .val (.ref a2), .val (.int (0 : Int32)), .val (.int (Int32.ofNat n)), .val (.int (0 : Int32)), .unset] []))
  have A_a2 := A_a2.cong (own_lbs0 cf gf n)
  have loop : ∀ (k i : Nat) (TL : State) (LL : List Loc) (hL : Heap) (s6 : Slot), i + k = n → One s6 → Stand p l e ({ frames := 0, cells := 0, slots := 0, locals := 0 } : Room) s m #[(.ref a1), (.int (0 : Int32)), (.ref a2), (.int (0 : Int32)), (.int (Int32.ofNat n))] below meth c TL LL 0 0 → TL.heap = hL → Fr n0 LL → n0 ≤ hL.size → Keep h0 hL [a2] → OAr Z hL a1 .char n (fun j => .int (cf j)) → OAr Z hL a2 .byte n (own_lbs cf gf i) → OGo p e below s ({ frames := 0, cells := 0, slots := 0, locals := 0 } : Room) (fun v h' L => v = some (.int (Int32.ofNat n)) ∧ Fr n0 L ∧ Keep h0 h' [a2] ∧ OAr Z h' a2 .byte n (fun j => .int (own_lb (cf j)))) (TL.setTop (mkF m 3 #[.val (.ref a1), .val (.int (Int32.ofNat i)), .val (.ref a2), .val (.int (Int32.ofNat i)), .val (.int (Int32.ofNat n)), .val (.int (Int32.ofNat i)), s6] [])) := by
    intro k
    induction k with
    | zero =>
      intro i TL LL hL s6 hi hs6 XL eL NL Z0 K0 A_a1 A_a2
      obtain rfl : n = i := by omega
      show OGo p e below s _ _ (TL.setTop (mkF m 3 #[.val (.ref a1), .val (.int (Int32.ofNat n)), .val (.ref a2), .val (.int (Int32.ofNat n)), .val (.int (Int32.ofNat n)), .val (.int (Int32.ofNat n)), s6] []))
      refine own_st (fun tt zk => XS.iload XL.here hx rfl (hb hby d8_3) rfl zk) ?_
      show OGo p e below s _ _ (TL.setTop (mkF m 5 #[.val (.ref a1), .val (.int (Int32.ofNat n)), .val (.ref a2), .val (.int (Int32.ofNat n)), .val (.int (Int32.ofNat n)), .val (.int (Int32.ofNat n)), s6] [(.int (Int32.ofNat n))]))
      refine own_st (fun tt zk => XS.iload XL.here hx rfl (hb hby d8_5) rfl zk) ?_
      show OGo p e below s _ _ (TL.setTop (mkF m 7 #[.val (.ref a1), .val (.int (Int32.ofNat n)), .val (.ref a2), .val (.int (Int32.ofNat n)), .val (.int (Int32.ofNat n)), .val (.int (Int32.ofNat n)), s6] [(.int (Int32.ofNat n)), (.int (Int32.ofNat n))]))
      refine own_st (fun tt zk => XS.icmpYes XL.here hx rfl (pc0 := 7) (pc' := 44) rfl (hb hby d8_7) rfl (flt ((fun q => absurd ((own_lt hn hn).mp q) (Nat.lt_irrefl _)))).2.1 (by decide) (by decide) zk) ?_
      show OGo p e below s _ _ (TL.setTop (mkF m 44 #[.val (.ref a1), .val (.int (Int32.ofNat n)), .val (.ref a2), .val (.int (Int32.ofNat n)), .val (.int (Int32.ofNat n)), .val (.int (Int32.ofNat n)), s6] []))
      refine own_st (fun tt zk => XS.iload XL.here hx rfl (hb hby d8_44) rfl zk) ?_
      show OGo p e below s _ _ (TL.setTop (mkF m 46 #[.val (.ref a1), .val (.int (Int32.ofNat n)), .val (.ref a2), .val (.int (Int32.ofNat n)), .val (.int (Int32.ofNat n)), .val (.int (Int32.ofNat n)), s6] [(.int (Int32.ofNat n))]))
      have A_a2 := A_a2.cong (own_lbsN cf gf n)
      exact own_retI XL hx hlk hret (hb hby d8_46) (by decide) (by decide) (⟨rfl, NL, (by rw [eL]; exact K0), (by rw [eL]; exact A_a2)⟩)
    | succ k ih =>
      intro i TL LL hL s6 hi hs6 XL eL NL Z0 K0 A_a1 A_a2
      show OGo p e below s _ _ (TL.setTop (mkF m 3 #[.val (.ref a1), .val (.int (Int32.ofNat i)), .val (.ref a2), .val (.int (Int32.ofNat i)), .val (.int (Int32.ofNat n)), .val (.int (Int32.ofNat i)), s6] []))
      refine own_st (fun tt zk => XS.iload XL.here hx rfl (hb hby d8_3) rfl zk) ?_
      show OGo p e below s _ _ (TL.setTop (mkF m 5 #[.val (.ref a1), .val (.int (Int32.ofNat i)), .val (.ref a2), .val (.int (Int32.ofNat i)), .val (.int (Int32.ofNat n)), .val (.int (Int32.ofNat i)), s6] [(.int (Int32.ofNat i))]))
      refine own_st (fun tt zk => XS.iload XL.here hx rfl (hb hby d8_5) rfl zk) ?_
      show OGo p e below s _ _ (TL.setTop (mkF m 7 #[.val (.ref a1), .val (.int (Int32.ofNat i)), .val (.ref a2), .val (.int (Int32.ofNat i)), .val (.int (Int32.ofNat n)), .val (.int (Int32.ofNat i)), s6] [(.int (Int32.ofNat n)), (.int (Int32.ofNat i))]))
      refine own_st (fun tt zk => XS.icmpNo XL.here hx rfl (hb hby d8_7) rfl (tlt (((own_lt (by omega) hn).mpr (by omega)))).2.1 zk) ?_
      show OGo p e below s _ _ (TL.setTop (mkF m 10 #[.val (.ref a1), .val (.int (Int32.ofNat i)), .val (.ref a2), .val (.int (Int32.ofNat i)), .val (.int (Int32.ofNat n)), .val (.int (Int32.ofNat i)), s6] []))
      refine own_st (fun tt zk => XS.aloadN XL.here hx rfl (hb hby d8_10) rfl rfl zk) ?_
      show OGo p e below s _ _ (TL.setTop (mkF m 11 #[.val (.ref a1), .val (.int (Int32.ofNat i)), .val (.ref a2), .val (.int (Int32.ofNat i)), .val (.int (Int32.ofNat n)), .val (.int (Int32.ofNat i)), s6] [(.ref a1)]))
      refine own_st (fun tt zk => XS.iloadN XL.here hx rfl (hb hby d8_11) rfl zk) ?_
      show OGo p e below s _ _ (TL.setTop (mkF m 12 #[.val (.ref a1), .val (.int (Int32.ofNat i)), .val (.ref a2), .val (.int (Int32.ofNat i)), .val (.int (Int32.ofNat n)), .val (.int (Int32.ofNat i)), s6] [(.int (Int32.ofNat i)), (.ref a1)]))
      obtain ⟨cl1, Ar1, Sz1, Hh1⟩ := id A_a1
      have hin1 := own_in (i := (Int32.ofNat i)) Sz1 (own_nat (by omega)).2.1 (by rw [(own_nat (by omega)).1]; omega)
      refine own_st (XL.caload hx (j := (Int32.ofNat i)) (v := (.int (cf i))) (by rw [eL]; exact Ar1.1) (State.isArrayOf_alike hZ.alike Ar1.2.1) Ar1.2.2 hin1 ((Hh1 _ (by rw [(own_nat (by omega)).1]; omega)).trans (congrArg some (by rw [(own_nat (by omega)).1]))) (g := (mkF m 12 #[.val (.ref a1), .val (.int (Int32.ofNat i)), .val (.ref a2), .val (.int (Int32.ofNat i)), .val (.int (Int32.ofNat n)), .val (.int (Int32.ofNat i)), s6] [(.int (Int32.ofNat i)), (.ref a1)])) rfl rfl (hb hby d8_12)) ?_
      show OGo p e below s _ _ (TL.setTop (mkF m 13 #[.val (.ref a1), .val (.int (Int32.ofNat i)), .val (.ref a2), .val (.int (Int32.ofNat i)), .val (.int (Int32.ofNat n)), .val (.int (Int32.ofNat i)), s6] [(.int (cf i))]))
      refine own_st (fun tt zk => XS.istore XL.here hx rfl (hb hby d8_13) rfl (l' := #[.val (.ref a1), .val (.int (Int32.ofNat i)), .val (.ref a2), .val (.int (Int32.ofNat i)), .val (.int (Int32.ofNat n)), .val (.int (Int32.ofNat i)), .val (.int (cf i))]) (own_st6 hs6) zk) ?_
      show OGo p e below s _ _ (TL.setTop (mkF m 15 #[.val (.ref a1), .val (.int (Int32.ofNat i)), .val (.ref a2), .val (.int (Int32.ofNat i)), .val (.int (Int32.ofNat n)), .val (.int (Int32.ofNat i)), .val (.int (cf i))] []))
      refine own_st (fun tt zk => XS.iload XL.here hx rfl (hb hby d8_15) rfl zk) ?_
      show OGo p e below s _ _ (TL.setTop (mkF m 17 #[.val (.ref a1), .val (.int (Int32.ofNat i)), .val (.ref a2), .val (.int (Int32.ofNat i)), .val (.int (Int32.ofNat n)), .val (.int (Int32.ofNat i)), .val (.int (cf i))] [(.int (cf i))]))
      refine own_st (fun tt zk => XS.sipush XL.here hx rfl (hb hby d8_17) zk) ?_
      show OGo p e below s _ _ (TL.setTop (mkF m 20 #[.val (.ref a1), .val (.int (Int32.ofNat i)), .val (.ref a2), .val (.int (Int32.ofNat i)), .val (.int (Int32.ofNat n)), .val (.int (Int32.ofNat i)), .val (.int (cf i))] [(.int (255 : Int32)), (.int (cf i))]))
      refine own_st (fun tt zk => XS.icmpYes XL.here hx rfl (pc0 := 20) (pc' := 26) rfl (hb hby d8_20) rfl (flt ((hc i (by omega)))).2.2.2 (by decide) (by decide) zk) ?_
      show OGo p e below s _ _ (TL.setTop (mkF m 26 #[.val (.ref a1), .val (.int (Int32.ofNat i)), .val (.ref a2), .val (.int (Int32.ofNat i)), .val (.int (Int32.ofNat n)), .val (.int (Int32.ofNat i)), .val (.int (cf i))] []))
      refine own_st (fun tt zk => XS.aloadN XL.here hx rfl (hb hby d8_26) rfl rfl zk) ?_
      show OGo p e below s _ _ (TL.setTop (mkF m 27 #[.val (.ref a1), .val (.int (Int32.ofNat i)), .val (.ref a2), .val (.int (Int32.ofNat i)), .val (.int (Int32.ofNat n)), .val (.int (Int32.ofNat i)), .val (.int (cf i))] [(.ref a2)]))
      refine own_st (fun tt zk => XS.iloadN XL.here hx rfl (hb hby d8_27) rfl zk) ?_
      show OGo p e below s _ _ (TL.setTop (mkF m 28 #[.val (.ref a1), .val (.int (Int32.ofNat i)), .val (.ref a2), .val (.int (Int32.ofNat i)), .val (.int (Int32.ofNat n)), .val (.int (Int32.ofNat i)), .val (.int (cf i))] [(.int (Int32.ofNat i)), (.ref a2)]))
      refine own_st (fun tt zk => XS.iload XL.here hx rfl (hb hby d8_28) rfl zk) ?_
      show OGo p e below s _ _ (TL.setTop (mkF m 30 #[.val (.ref a1), .val (.int (Int32.ofNat i)), .val (.ref a2), .val (.int (Int32.ofNat i)), .val (.int (Int32.ofNat n)), .val (.int (Int32.ofNat i)), .val (.int (cf i))] [(.int (cf i)), (.int (Int32.ofNat i)), (.ref a2)]))
      refine own_st (fun tt zk => XS.i2b XL.here hx rfl (hb hby d8_30) rfl zk) ?_
      show OGo p e below s _ _ (TL.setTop (mkF m 31 #[.val (.ref a1), .val (.int (Int32.ofNat i)), .val (.ref a2), .val (.int (Int32.ofNat i)), .val (.int (Int32.ofNat n)), .val (.int (Int32.ofNat i)), .val (.int (cf i))] [(.int (cf i).toInt8.toInt32), (.int (Int32.ofNat i)), (.ref a2)]))
      obtain ⟨cl2, Ar2, Sz2, Hh2⟩ := id A_a2
      obtain ⟨T2, hp2, X2, e2, Ww2, st2⟩ := stB XL hx hZ eL Ar2 (j := (Int32.ofNat i)) (own_in Sz2 (own_nat (by omega)).2.1 (by rw [(own_nat (by omega)).1]; omega)) (g := (mkF m 31 #[.val (.ref a1), .val (.int (Int32.ofNat i)), .val (.ref a2), .val (.int (Int32.ofNat i)), .val (.int (Int32.ofNat n)), .val (.int (Int32.ofNat i)), .val (.int (cf i))] [(.int (cf i).toInt8.toInt32), (.int (Int32.ofNat i)), (.ref a2)])) rfl rfl (hb hby d8_31)
      have Nf2 := Fr.snoc X2 NL old_a2
      have Z0 := Nat.le_trans Z0 (Keep.of_wr Ww2).1
      have K0 := K0.wr Ww2 (Or.inl (List.mem_of_getElem? (i := 0) rfl))
      have A_a1 := A_a1.other Ww2 ne_a1_a2
      have A_a2 := OAr.set Ar2 Sz2 Hh2 Ww2
      refine own_st st2 ?_
      show OGo p e below s _ _ (T2.setTop (mkF m 32 #[.val (.ref a1), .val (.int (Int32.ofNat i)), .val (.ref a2), .val (.int (Int32.ofNat i)), .val (.int (Int32.ofNat n)), .val (.int (Int32.ofNat i)), .val (.int (cf i))] []))
      have A_a2 := A_a2.cong (own_lbsS cf gf n i (by omega))
      refine own_st (fun tt zk => XS.iinc X2.here hx rfl (hb hby d8_32) rfl (l' := #[.val (.ref a1), .val (.int ((Int32.ofNat i) + (1 : Int32))), .val (.ref a2), .val (.int (Int32.ofNat i)), .val (.int (Int32.ofNat n)), .val (.int (Int32.ofNat i)), .val (.int (cf i))]) rfl zk) ?_
      show OGo p e below s _ _ (T2.setTop (mkF m 35 #[.val (.ref a1), .val (.int ((Int32.ofNat i) + (1 : Int32))), .val (.ref a2), .val (.int (Int32.ofNat i)), .val (.int (Int32.ofNat n)), .val (.int (Int32.ofNat i)), .val (.int (cf i))] []))
      refine own_st (fun tt zk => XS.iinc X2.here hx rfl (hb hby d8_35) rfl (l' := #[.val (.ref a1), .val (.int ((Int32.ofNat i) + (1 : Int32))), .val (.ref a2), .val (.int ((Int32.ofNat i) + (1 : Int32))), .val (.int (Int32.ofNat n)), .val (.int (Int32.ofNat i)), .val (.int (cf i))]) rfl zk) ?_
      show OGo p e below s _ _ (T2.setTop (mkF m 38 #[.val (.ref a1), .val (.int ((Int32.ofNat i) + (1 : Int32))), .val (.ref a2), .val (.int ((Int32.ofNat i) + (1 : Int32))), .val (.int (Int32.ofNat n)), .val (.int (Int32.ofNat i)), .val (.int (cf i))] []))
      refine own_st (fun tt zk => XS.iinc X2.here hx rfl (hb hby d8_38) rfl (l' := #[.val (.ref a1), .val (.int ((Int32.ofNat i) + (1 : Int32))), .val (.ref a2), .val (.int ((Int32.ofNat i) + (1 : Int32))), .val (.int (Int32.ofNat n)), .val (.int ((Int32.ofNat i) + (1 : Int32))), .val (.int (cf i))]) rfl zk) ?_
      show OGo p e below s _ _ (T2.setTop (mkF m 41 #[.val (.ref a1), .val (.int ((Int32.ofNat i) + (1 : Int32))), .val (.ref a2), .val (.int ((Int32.ofNat i) + (1 : Int32))), .val (.int (Int32.ofNat n)), .val (.int ((Int32.ofNat i) + (1 : Int32))), .val (.int (cf i))] []))
      refine own_st (fun tt zk => XS.goto X2.here hx rfl (pc0 := 41) (pc' := 3) rfl (hb hby d8_41) (by decide) (by decide) zk) ?_
      show OGo p e below s _ _ (T2.setTop (mkF m 3 #[.val (.ref a1), .val (.int ((Int32.ofNat i) + (1 : Int32))), .val (.ref a2), .val (.int ((Int32.ofNat i) + (1 : Int32))), .val (.int (Int32.ofNat n)), .val (.int ((Int32.ofNat i) + (1 : Int32))), .val (.int (cf i))] []))
      rw [own_up]
      exact ih (i + 1) T2 _ hp2 _ (by omega) (One.val rfl) X2 e2 Nf2 Z0 K0 A_a1 A_a2
  exact loop n 0 _ _ _ _ (by omega) One.u X0 e0 N0 Z0 K0 A_a1 A_a2
theorem d7_0 : decode jdk_52_method_16_code 0 = .ok (.iload_n 2, 1) := by decide +kernel
theorem d7_1 : decode jdk_52_method_16_code 1 = .ok (.newarray .byte, 2) := by decide +kernel
theorem d7_3 : decode jdk_52_method_16_code 3 = .ok (.astore_n 3, 1) := by decide +kernel
theorem d7_4 : decode jdk_52_method_16_code 4 = .ok (.aload_n 0, 1) := by decide +kernel
theorem d7_5 : decode jdk_52_method_16_code 5 = .ok (.iload_n 1, 1) := by decide +kernel
theorem d7_6 : decode jdk_52_method_16_code 6 = .ok (.aload_n 3, 1) := by decide +kernel
theorem d7_7 : decode jdk_52_method_16_code 7 = .ok (.iconst 0, 1) := by decide +kernel
theorem d7_8 : decode jdk_52_method_16_code 8 = .ok (.iload_n 2, 1) := by decide +kernel
theorem d7_9 : decode jdk_52_method_16_code 9 = .ok (.invokestatic 115, 3) := by decide +kernel
theorem pd_0 : parseMethodDescriptor "([CI[BII)I" = some ⟨[(.array .char), .int, (.array .byte), .int, .int], some .int⟩ := by decide +kernel
theorem d7_12 : decode jdk_52_method_16_code 12 = .ok (.istore 4, 2) := by decide +kernel
theorem d7_14 : decode jdk_52_method_16_code 14 = .ok (.iload 4, 2) := by decide +kernel
theorem d7_16 : decode jdk_52_method_16_code 16 = .ok (.iload_n 2, 1) := by decide +kernel
theorem d7_17 : decode jdk_52_method_16_code 17 = .ok (.if_icmp .eq 40, 3) := by decide +kernel
theorem d7_57 : decode jdk_52_method_16_code 57 = .ok (.aload_n 3, 1) := by decide +kernel
theorem d7_58 : decode jdk_52_method_16_code 58 = .ok (.areturn, 1) := by decide +kernel
theorem ef_7_RII (m : MethodId) (x0 : Addr) (x1 : Int32) (x2 : Int32) : entryFrame m #[(.ref x0), (.int x1), (.int x2)] 6 = mkF m 0 #[.val (.ref x0), .val (.int x1), .val (.int x2), .unset, .unset, .unset] [] := by first | (simp [entryFrame, mkF, argsToLocals, Value.category]; done) | rfl
set_option maxRecDepth 65536 in
set_option maxHeartbeats 40000000 in
theorem sc2 (l : Launch) (Z : State) (a0 : Array Value) (hw : ∀ d ∈ tables_1, d.before a0 Z = true) (a1 : Addr) (n : Nat) (cf : Nat → Int32) (h0 : Heap) (n0 : Nat) (Z0 : n0 ≤ h0.size) (A_a1 : OAr Z h0 a1 .char n (fun j => .int (cf j))) (hn : n ≤ 3) (h1 : 0 < n) (hc : ∀ j, j < n → ¬ (255 : Int32) < cf j) :
    OMet l Z (⟨"java/lang/StringUTF16", "compress", "([CII)[B"⟩ : MethodName) jdk_52_method_16_code 6 (some (.array .byte)) [] ({ frames := 1, cells := 1, slots := 3, locals := 18 } : Room) #[(.ref a1), (.int (0 : Int32)), (.int (Int32.ofNat n))] h0 (fun v h' L => ∃ t1 : Addr, v = some (.ref t1) ∧ Fr n0 L ∧ Keep h0 h' [] ∧ h0.size ≤ t1 ∧ OAr Z h' t1 .byte n (fun j => .int (own_lb (cf j)))) := by
  refine own_body (plainFor_of_name pn_java_lang_StringUTF16) (fun m => ef_7_RII m a1 (0 : Int32) (Int32.ofNat n)) ?_
  intro p e s m below meth c T0 hx hby hml hown hnm hret hlk hZ X0 e0
  have hown : s.vm.findClass "java/lang/StringUTF16" = some m.cls := hown
  have hml : c.maxLocals = 6 := hml
  have N0 := Fr.nil n0
  have K0 := Keep.refl h0 []
  show OGo p e below s _ _ (T0.setTop (mkF m 0 #[.val (.ref a1), .val (.int (0 : Int32)), .val (.int (Int32.ofNat n)), .unset, .unset, .unset] []))
  refine own_st (fun tt zk => XS.iloadN X0.here hx rfl (hb hby d7_0) rfl zk) ?_
  show OGo p e below s _ _ (T0.setTop (mkF m 1 #[.val (.ref a1), .val (.int (0 : Int32)), .val (.int (Int32.ofNat n)), .unset, .unset, .unset] [(.int (Int32.ofNat n))]))
  obtain ⟨T3, hp3, kk3, X3, e3, Ex3, Aa3, st3⟩ := newP X0 hx hZ (hw _ (List.mem_of_getElem? (i := 15) rfl)) e0 (g := (mkF m 1 #[.val (.ref a1), .val (.int (0 : Int32)), .val (.int (Int32.ofNat n)), .unset, .unset, .unset] [(.int (Int32.ofNat n))])) rfl (hb hby d7_1) rfl (own_nat (i := n) (by omega)).2.1 (cap := 3) (by rw [(own_nat (i := n) (by omega)).1]; exact hn) (by decide) (by decide) (by decide)
  obtain ⟨t1, gs3⟩ : ∃ z, z = h0.size := ⟨_, rfl⟩
  rw [← gs3] at Aa3 st3
  have ne_a1_t1 : a1 ≠ t1 := Nat.ne_of_lt (Nat.lt_of_lt_of_le A_a1.lt (Nat.le_of_eq gs3.symm))
  have old_t1 : n0 ≤ t1 := Nat.le_trans Z0 (Nat.le_of_eq gs3.symm)
  have fr_t1 : h0.size ≤ t1 := Nat.le_trans K0.1 (Nat.le_of_eq gs3.symm)
  have K0 := K0.ext Ex3
  have Z0 := Nat.le_trans Z0 Ex3.1
  have A_a1 := A_a1.ext Ex3
  have A_t1 := OAr.new Aa3
  refine own_st st3 ?_
  show OGo p e below s _ _ (T3.setTop (mkF m 3 #[.val (.ref a1), .val (.int (0 : Int32)), .val (.int (Int32.ofNat n)), .unset, .unset, .unset] [(.ref t1)]))
  rw [(own_nat (i := n) (by omega)).1] at A_t1
  refine own_st (fun tt zk => XS.astoreN X3.here hx rfl (hb hby d7_3) rfl rfl (l' := #[.val (.ref a1), .val (.int (0 : Int32)), .val (.int (Int32.ofNat n)), .val (.ref t1), .unset, .unset]) rfl zk) ?_
  show OGo p e below s _ _ (T3.setTop (mkF m 4 #[.val (.ref a1), .val (.int (0 : Int32)), .val (.int (Int32.ofNat n)), .val (.ref t1), .unset, .unset] []))
  refine own_st (fun tt zk => XS.aloadN X3.here hx rfl (hb hby d7_4) rfl rfl zk) ?_
  show OGo p e below s _ _ (T3.setTop (mkF m 5 #[.val (.ref a1), .val (.int (0 : Int32)), .val (.int (Int32.ofNat n)), .val (.ref t1), .unset, .unset] [(.ref a1)]))
  refine own_st (fun tt zk => XS.iloadN X3.here hx rfl (hb hby d7_5) rfl zk) ?_
  show OGo p e below s _ _ (T3.setTop (mkF m 6 #[.val (.ref a1), .val (.int (0 : Int32)), .val (.int (Int32.ofNat n)), .val (.ref t1), .unset, .unset] [(.int (0 : Int32)), (.ref a1)]))
  refine own_st (fun tt zk => XS.aloadN X3.here hx rfl (hb hby d7_6) rfl rfl zk) ?_
  show OGo p e below s _ _ (T3.setTop (mkF m 7 #[.val (.ref a1), .val (.int (0 : Int32)), .val (.int (Int32.ofNat n)), .val (.ref t1), .unset, .unset] [(.ref t1), (.int (0 : Int32)), (.ref a1)]))
  refine own_st (fun tt zk => XS.iconst X3.here hx rfl (hb hby d7_7) zk) ?_
  show OGo p e below s _ _ (T3.setTop (mkF m 8 #[.val (.ref a1), .val (.int (0 : Int32)), .val (.int (Int32.ofNat n)), .val (.ref t1), .unset, .unset] [(.int (0 : Int32)), (.ref t1), (.int (0 : Int32)), (.ref a1)]))
  refine own_st (fun tt zk => XS.iloadN X3.here hx rfl (hb hby d7_8) rfl zk) ?_
  show OGo p e below s _ _ (T3.setTop (mkF m 9 #[.val (.ref a1), .val (.int (0 : Int32)), .val (.int (Int32.ofNat n)), .val (.ref t1), .unset, .unset] [(.int (Int32.ofNat n)), (.int (0 : Int32)), (.ref t1), (.int (0 : Int32)), (.ref a1)]))
  obtain ⟨_, T4, Lc4, X4, hQ4, st4⟩ := own_callS X3 hx hZ (y := (⟨"java/lang/StringUTF16", "compress", "([CI[BII)I"⟩ : MethodName)) (W := 0) hown (hw _ (List.mem_of_getElem? (i := 41) rfl)) (hw _ (List.mem_of_getElem? (i := 42) rfl)) (hw _ (List.mem_of_getElem? (i := 39) rfl)) (hw _ (List.mem_of_getElem? (i := 43) rfl)) (by decide) (sc1 l Z a0 hw a1 t1 n cf (fun _ => defaultValue .byte) hp3 n0 Z0 old_t1 ne_a1_t1 A_a1 A_t1 (by omega) hc) (by decide) (by decide) (g := (mkF m 9 #[.val (.ref a1), .val (.int (0 : Int32)), .val (.int (Int32.ofNat n)), .val (.ref t1), .unset, .unset] [(.int (Int32.ofNat n)), (.int (0 : Int32)), (.ref t1), (.int (0 : Int32)), (.ref a1)])) rfl (by rw [hml]; rfl) (argsL := [(.ref a1), (.int (0 : Int32)), (.ref t1), (.int (0 : Int32)), (.int (Int32.ofNat n))]) (rest := []) (lenOf pd_0 rfl) rfl (by show 2 * 0 + _ ≤ _; exact Nat.le_of_eq rfl) (hb hby d7_9) rfl e3 (by decide) (by decide)
  obtain ⟨rfl, Nq4, Kq4, q4_0⟩ := hQ4
  have Z0 := Nat.le_trans Z0 Kq4.1
  have K0 := K0.trans Kq4 (allS (Or.inr fr_t1) all0)
  have A_a1 := A_a1.keep Kq4 (ninS ne_a1_t1 nin0)
  have Nr4 := Fr.app N0 Nq4
  have A_t1 := q4_0
  refine own_st st4 ?_
  show OGo p e below s _ _ (T4.setTop (mkF m 12 #[.val (.ref a1), .val (.int (0 : Int32)), .val (.int (Int32.ofNat n)), .val (.ref t1), .unset, .unset] [(.int (Int32.ofNat n))]))
  refine own_st (fun tt zk => XS.istore X4.here hx rfl (hb hby d7_12) rfl (l' := #[.val (.ref a1), .val (.int (0 : Int32)), .val (.int (Int32.ofNat n)), .val (.ref t1), .val (.int (Int32.ofNat n)), .unset]) rfl zk) ?_
  show OGo p e below s _ _ (T4.setTop (mkF m 14 #[.val (.ref a1), .val (.int (0 : Int32)), .val (.int (Int32.ofNat n)), .val (.ref t1), .val (.int (Int32.ofNat n)), .unset] []))
  refine own_st (fun tt zk => XS.iload X4.here hx rfl (hb hby d7_14) rfl zk) ?_
  show OGo p e below s _ _ (T4.setTop (mkF m 16 #[.val (.ref a1), .val (.int (0 : Int32)), .val (.int (Int32.ofNat n)), .val (.ref t1), .val (.int (Int32.ofNat n)), .unset] [(.int (Int32.ofNat n))]))
  refine own_st (fun tt zk => XS.iloadN X4.here hx rfl (hb hby d7_16) rfl zk) ?_
  show OGo p e below s _ _ (T4.setTop (mkF m 17 #[.val (.ref a1), .val (.int (0 : Int32)), .val (.int (Int32.ofNat n)), .val (.ref t1), .val (.int (Int32.ofNat n)), .unset] [(.int (Int32.ofNat n)), (.int (Int32.ofNat n))]))
  refine own_st (fun tt zk => XS.icmpYes X4.here hx rfl (pc0 := 17) (pc' := 57) rfl (hb hby d7_17) rfl (teq (rfl)).1 (by decide) (by decide) zk) ?_
  show OGo p e below s _ _ (T4.setTop (mkF m 57 #[.val (.ref a1), .val (.int (0 : Int32)), .val (.int (Int32.ofNat n)), .val (.ref t1), .val (.int (Int32.ofNat n)), .unset] []))
  refine own_st (fun tt zk => XS.aloadN X4.here hx rfl (hb hby d7_57) rfl rfl zk) ?_
  show OGo p e below s _ _ (T4.setTop (mkF m 58 #[.val (.ref a1), .val (.int (0 : Int32)), .val (.int (Int32.ofNat n)), .val (.ref t1), .val (.int (Int32.ofNat n)), .unset] [(.ref t1)]))
  exact own_retA X4 hx hlk hret rfl rfl (hb hby d7_58) (by decide) (by decide) (⟨t1, rfl, Nr4, K0, fr_t1, A_t1⟩)
theorem own_len (n : Nat) : n.toInt32 = Int32.ofNat n := rfl
theorem own_cfa (x : Int32) : (((x - x).toUInt32 >>> ((31 : Int32) &&& 31).toUInt32).toInt32).toInt8.toInt32 = 0 := by rw [Int32.sub_self]; decide
theorem d9_0 : decode jdk_52_method_15_code 0 = .ok (.iload_n 1, 1) := by decide +kernel
theorem d9_1 : decode jdk_52_method_15_code 1 = .ok (.aload_n 0, 1) := by decide +kernel
theorem d9_2 : decode jdk_52_method_15_code 2 = .ok (.arraylength, 1) := by decide +kernel
theorem d9_3 : decode jdk_52_method_15_code 3 = .ok (.isub, 1) := by decide +kernel
theorem d9_4 : decode jdk_52_method_15_code 4 = .ok (.bipush 31, 2) := by decide +kernel
theorem d9_6 : decode jdk_52_method_15_code 6 = .ok (.iushr, 1) := by decide +kernel
theorem d9_7 : decode jdk_52_method_15_code 7 = .ok (.i2b, 1) := by decide +kernel
theorem d9_8 : decode jdk_52_method_15_code 8 = .ok (.ireturn, 1) := by decide +kernel
theorem ef_9_RI (m : MethodId) (x0 : Addr) (x1 : Int32) : entryFrame m #[(.ref x0), (.int x1)] 2 = mkF m 0 #[.val (.ref x0), .val (.int x1)] [] := by first | (simp [entryFrame, mkF, argsToLocals, Value.category]; done) | rfl
set_option maxRecDepth 65536 in
set_option maxHeartbeats 40000000 in
theorem sc3 (l : Launch) (Z : State) (a0 : Array Value) (hw : ∀ d ∈ tables_1, d.before a0 Z = true) (a1 : Addr) (n : Nat) (gf : Nat → Value) (h0 : Heap) (A_a1 : OAr Z h0 a1 .byte n gf) :
    OPure l Z (⟨"java/lang/StringUTF16", "coderFromArrayLen", "([BI)B"⟩ : MethodName) jdk_52_method_15_code 2 (some .byte) [] ({ frames := 0, cells := 0, slots := 0, locals := 0 } : Room) #[(.ref a1), (.int (Int32.ofNat n))] h0 (some (.int (0 : Int32))) := by
  refine own_body (plainFor_of_name pn_java_lang_StringUTF16) (fun m => ef_9_RI m a1 (Int32.ofNat n)) ?_
  intro p e s m below meth c T0 hx hby hml hown hnm hret hlk hZ X0 e0
  have hown : s.vm.findClass "java/lang/StringUTF16" = some m.cls := hown
  have hml : c.maxLocals = 2 := hml
  show OGo p e below s _ _ (T0.setTop (mkF m 0 #[.val (.ref a1), .val (.int (Int32.ofNat n))] []))
  refine own_st (fun tt zk => XS.iloadN X0.here hx rfl (hb hby d9_0) rfl zk) ?_
  show OGo p e below s _ _ (T0.setTop (mkF m 1 #[.val (.ref a1), .val (.int (Int32.ofNat n))] [(.int (Int32.ofNat n))]))
  refine own_st (fun tt zk => XS.aloadN X0.here hx rfl (hb hby d9_1) rfl rfl zk) ?_
  show OGo p e below s _ _ (T0.setTop (mkF m 2 #[.val (.ref a1), .val (.int (Int32.ofNat n))] [(.ref a1), (.int (Int32.ofNat n))]))
  obtain ⟨cl5, Ar5, Sz5, -⟩ := id A_a1
  refine own_st (X0.arraylength hx (by rw [e0]; exact Ar5.1) (State.isArrayOf_alike hZ.alike Ar5.2.1) (g := (mkF m 2 #[.val (.ref a1), .val (.int (Int32.ofNat n))] [(.ref a1), (.int (Int32.ofNat n))])) rfl rfl (hb hby d9_2)) ?_
  rw [Sz5, own_len n]
  show OGo p e below s _ _ (T0.setTop (mkF m 3 #[.val (.ref a1), .val (.int (Int32.ofNat n))] [(.int (Int32.ofNat n)), (.int (Int32.ofNat n))]))
  refine own_st (fun tt zk => XS.isub X0.here hx rfl (hb hby d9_3) rfl zk) ?_
  show OGo p e below s _ _ (T0.setTop (mkF m 4 #[.val (.ref a1), .val (.int (Int32.ofNat n))] [(.int ((Int32.ofNat n) - (Int32.ofNat n)))]))
  refine own_st (fun tt zk => XS.bipush X0.here hx rfl (hb hby d9_4) zk) ?_
  show OGo p e below s _ _ (T0.setTop (mkF m 6 #[.val (.ref a1), .val (.int (Int32.ofNat n))] [(.int (31 : Int32)), (.int ((Int32.ofNat n) - (Int32.ofNat n)))]))
  refine own_st (fun tt zk => XS.iushr X0.here hx rfl (hb hby d9_6) rfl zk) ?_
  show OGo p e below s _ _ (T0.setTop (mkF m 7 #[.val (.ref a1), .val (.int (Int32.ofNat n))] [(.int ((((Int32.ofNat n) - (Int32.ofNat n)).toUInt32 >>> ((31 : Int32) &&& 31).toUInt32).toInt32))]))
  refine own_st (fun tt zk => XS.i2b X0.here hx rfl (hb hby d9_7) rfl zk) ?_
  show OGo p e below s _ _ (T0.setTop (mkF m 8 #[.val (.ref a1), .val (.int (Int32.ofNat n))] [(.int ((((Int32.ofNat n) - (Int32.ofNat n)).toUInt32 >>> ((31 : Int32) &&& 31).toUInt32).toInt32).toInt8.toInt32)]))
  rw [own_cfa]
  exact own_retN X0 hx hlk (t := .byte) hret (by simp) (hb hby d9_8) (by decide) (by decide) (⟨rfl, rfl, e0⟩)
theorem own_nz {n : Nat} (h : 0 < n) (hn : n < 2 ^ 31) : ¬ Int32.ofNat n = 0 := fun q => by
  have e := (own_nat hn).2.2
  rw [q, show (0 : Int32).toInt = 0 from by decide] at e
  omega
theorem d2_0 : decode jdk_42_method_149_code 0 = .ok (.aload_n 0, 1) := by decide +kernel
theorem d2_1 : decode jdk_42_method_149_code 1 = .ok (.invokespecial 1, 3) := by decide +kernel
theorem d2_4 : decode jdk_42_method_149_code 4 = .ok (.iload_n 3, 1) := by decide +kernel
theorem d2_5 : decode jdk_42_method_149_code 5 = .ok (.ifCond .ne 22, 3) := by decide +kernel
theorem d2_27 : decode jdk_42_method_149_code 27 = .ok (.getstatic 38, 3) := by decide +kernel
theorem d2_30 : decode jdk_42_method_149_code 30 = .ok (.ifCond .eq 28, 3) := by decide +kernel
theorem d2_33 : decode jdk_42_method_149_code 33 = .ok (.aload_n 1, 1) := by decide +kernel
theorem d2_34 : decode jdk_42_method_149_code 34 = .ok (.iload_n 2, 1) := by decide +kernel
theorem d2_35 : decode jdk_42_method_149_code 35 = .ok (.iload_n 3, 1) := by decide +kernel
theorem d2_36 : decode jdk_42_method_149_code 36 = .ok (.invokestatic 177, 3) := by decide +kernel
theorem pd_1 : parseMethodDescriptor "([CII)[B" = some ⟨[(.array .char), .int, .int], some (.array .byte)⟩ := by decide +kernel
theorem d2_39 : decode jdk_42_method_149_code 39 = .ok (.astore 5, 2) := by decide +kernel
theorem d2_41 : decode jdk_42_method_149_code 41 = .ok (.aload_n 0, 1) := by decide +kernel
theorem d2_42 : decode jdk_42_method_149_code 42 = .ok (.aload 5, 2) := by decide +kernel
theorem d2_44 : decode jdk_42_method_149_code 44 = .ok (.iload_n 3, 1) := by decide +kernel
theorem d2_45 : decode jdk_42_method_149_code 45 = .ok (.invokestatic 47, 3) := by decide +kernel
theorem pd_2 : parseMethodDescriptor "([BI)B" = some ⟨[(.array .byte), .int], some .byte⟩ := by decide +kernel
theorem d2_48 : decode jdk_42_method_149_code 48 = .ok (.putfield 15, 3) := by decide +kernel
theorem d2_51 : decode jdk_42_method_149_code 51 = .ok (.aload_n 0, 1) := by decide +kernel
theorem d2_52 : decode jdk_42_method_149_code 52 = .ok (.aload 5, 2) := by decide +kernel
theorem d2_54 : decode jdk_42_method_149_code 54 = .ok (.putfield 9, 3) := by decide +kernel
theorem d2_57 : decode jdk_42_method_149_code 57 = .ok (.return_, 1) := by decide +kernel
theorem pn_java_lang_String : plainName "java/lang/String" = true := by first | (simp [plainName, overriddenIn]; done) | decide +kernel
theorem ef_2_RRII0 (m : MethodId) (x0 : Addr) (x1 : Addr) (x2 : Int32) (x3 : Int32) : entryFrame m #[(.ref x0), (.ref x1), (.int x2), (.int x3), .null] 6 = mkF m 0 #[.val (.ref x0), .val (.ref x1), .val (.int x2), .val (.int x3), .val .null, .unset] [] := by first | (simp [entryFrame, mkF, argsToLocals, Value.category]; done) | rfl
set_option maxRecDepth 65536 in
set_option maxHeartbeats 40000000 in
theorem sc4 (l : Launch) (Z : State) (a0 : Array Value) (hw : ∀ d ∈ tables_1, d.before a0 Z = true) (a1 : Addr) (a2 : Addr) (n : Nat) (cf : Nat → Int32) (cs : Int32) (h0 : Heap) (n0 : Nat) (Z0 : n0 ≤ h0.size) (old_a1 : n0 ≤ a1) (ne_a2_a1 : a2 ≠ a1) (E_a1 : Exa Z h0 a1 "java/lang/String") (F_coder_a1 : Fld Z h0 a1 "java/lang/String" "coder" "B" (.int (0 : Int32))) (F_value_a1 : Fld Z h0 a1 "java/lang/String" "value" "[B" .null) (A_a2 : OAr Z h0 a2 .char n (fun j => .int (cf j))) (S_COMPACT_STRINGS : Sta Z h0 "java/lang/String" "COMPACT_STRINGS" "Z" (.int cs)) (hn : n ≤ 3) (h1 : 0 < n) (hc : ∀ j, j < n → ¬ (255 : Int32) < cf j) (hcs : ¬ cs = (0 : Int32)) :
    OMet l Z (⟨"java/lang/String", "<init>", "([CIILjava/lang/Void;)V"⟩ : MethodName) jdk_42_method_149_code 6 none [] ({ frames := 2, cells := 1, slots := 3, locals := 35 } : Room) #[(.ref a1), (.ref a2), (.int (0 : Int32)), (.int (Int32.ofNat n)), .null] h0 (fun v h' L => ∃ t1 : Addr, v = none ∧ Fr n0 L ∧ Keep h0 h' [a1] ∧ h0.size ≤ t1 ∧ Exa Z h' a1 "java/lang/String" ∧ Fld Z h' a1 "java/lang/String" "coder" "B" (.int (0 : Int32)) ∧ Fld Z h' a1 "java/lang/String" "value" "[B" (.ref t1) ∧ OAr Z h' t1 .byte n (fun j => .int (own_lb (cf j)))) := by
  refine own_body (plainFor_of_name pn_java_lang_String) (fun m => ef_2_RRII0 m a1 a2 (0 : Int32) (Int32.ofNat n)) ?_
  intro p e s m below meth c T0 hx hby hml hown hnm hret hlk hZ X0 e0
  have hown : s.vm.findClass "java/lang/String" = some m.cls := hown
  have hml : c.maxLocals = 6 := hml
  have N0 := Fr.nil n0
  have K0 := Keep.refl h0 [a1]
  show OGo p e below s _ _ (T0.setTop (mkF m 0 #[.val (.ref a1), .val (.ref a2), .val (.int (0 : Int32)), .val (.int (Int32.ofNat n)), .val .null, .unset] []))
  refine own_st (fun tt zk => XS.aloadN X0.here hx rfl (hb hby d2_0) rfl rfl zk) ?_
  show OGo p e below s _ _ (T0.setTop (mkF m 1 #[.val (.ref a1), .val (.ref a2), .val (.int (0 : Int32)), .val (.int (Int32.ofNat n)), .val .null, .unset] [(.ref a1)]))
  obtain ⟨T6, X6, e6, st6⟩ := initO X0 hx hZ hown (hw _ (List.mem_of_getElem? (i := 11) rfl)) (hw _ (List.mem_of_getElem? (i := 12) rfl)) (hw _ (List.mem_of_getElem? (i := 13) rfl)) e0 (g := (mkF m 1 #[.val (.ref a1), .val (.ref a2), .val (.int (0 : Int32)), .val (.int (Int32.ofNat n)), .val .null, .unset] [(.ref a1)])) rfl (by rw [hml]; rfl) rfl (hb hby d2_1) (by decide) (W := 0) (by show 2 * 0 + _ ≤ _; exact Nat.le_of_eq rfl) (by decide)
  refine own_st st6 ?_
  show OGo p e below s _ _ (T6.setTop (mkF m 4 #[.val (.ref a1), .val (.ref a2), .val (.int (0 : Int32)), .val (.int (Int32.ofNat n)), .val .null, .unset] []))
  refine own_st (fun tt zk => XS.iloadN X6.here hx rfl (hb hby d2_4) rfl zk) ?_
  show OGo p e below s _ _ (T6.setTop (mkF m 5 #[.val (.ref a1), .val (.ref a2), .val (.int (0 : Int32)), .val (.int (Int32.ofNat n)), .val .null, .unset] [(.int (Int32.ofNat n))]))
  refine own_st (fun tt zk => XS.ifYes X6.here hx rfl (pc0 := 5) (pc' := 27) rfl (hb hby d2_5) rfl ((if0 _ _).trans (feq ((own_nz h1 (by omega)))).2) (by decide) (by decide) zk) ?_
  show OGo p e below s _ _ (T6.setTop (mkF m 27 #[.val (.ref a1), .val (.ref a2), .val (.int (0 : Int32)), .val (.int (Int32.ofNat n)), .val .null, .unset] []))
  obtain ⟨T7, X7, e7, st7⟩ := getS2 X6 hx hZ hown (host := "") (Or.inl (hw _ (List.mem_of_getElem? (i := 36) rfl))) Via.refl e6 S_COMPACT_STRINGS (g := (mkF m 27 #[.val (.ref a1), .val (.ref a2), .val (.int (0 : Int32)), .val (.int (Int32.ofNat n)), .val .null, .unset] [])) rfl (hb hby d2_27)
  refine own_st st7 ?_
  show OGo p e below s _ _ (T7.setTop (mkF m 30 #[.val (.ref a1), .val (.ref a2), .val (.int (0 : Int32)), .val (.int (Int32.ofNat n)), .val .null, .unset] [(.int cs)]))
  refine own_st (fun tt zk => XS.ifNo X7.here hx rfl (hb hby d2_30) rfl ((if0 _ _).trans (feq (hcs)).1) zk) ?_
  show OGo p e below s _ _ (T7.setTop (mkF m 33 #[.val (.ref a1), .val (.ref a2), .val (.int (0 : Int32)), .val (.int (Int32.ofNat n)), .val .null, .unset] []))
  refine own_st (fun tt zk => XS.aloadN X7.here hx rfl (hb hby d2_33) rfl rfl zk) ?_
  show OGo p e below s _ _ (T7.setTop (mkF m 34 #[.val (.ref a1), .val (.ref a2), .val (.int (0 : Int32)), .val (.int (Int32.ofNat n)), .val .null, .unset] [(.ref a2)]))
  refine own_st (fun tt zk => XS.iloadN X7.here hx rfl (hb hby d2_34) rfl zk) ?_
  show OGo p e below s _ _ (T7.setTop (mkF m 35 #[.val (.ref a1), .val (.ref a2), .val (.int (0 : Int32)), .val (.int (Int32.ofNat n)), .val .null, .unset] [(.int (0 : Int32)), (.ref a2)]))
  refine own_st (fun tt zk => XS.iloadN X7.here hx rfl (hb hby d2_35) rfl zk) ?_
  show OGo p e below s _ _ (T7.setTop (mkF m 36 #[.val (.ref a1), .val (.ref a2), .val (.int (0 : Int32)), .val (.int (Int32.ofNat n)), .val .null, .unset] [(.int (Int32.ofNat n)), (.int (0 : Int32)), (.ref a2)]))
  obtain ⟨_, T8, Lc8, X8, hQ8, st8⟩ := own_callS X7 hx hZ (y := (⟨"java/lang/StringUTF16", "compress", "([CII)[B"⟩ : MethodName)) (W := 0) hown (hw _ (List.mem_of_getElem? (i := 37) rfl)) (hw _ (List.mem_of_getElem? (i := 38) rfl)) (hw _ (List.mem_of_getElem? (i := 39) rfl)) (hw _ (List.mem_of_getElem? (i := 40) rfl)) (by decide) (sc2 l Z a0 hw a2 n cf h0 n0 Z0 A_a2 hn h1 hc) (by decide) (by decide) (g := (mkF m 36 #[.val (.ref a1), .val (.ref a2), .val (.int (0 : Int32)), .val (.int (Int32.ofNat n)), .val .null, .unset] [(.int (Int32.ofNat n)), (.int (0 : Int32)), (.ref a2)])) rfl (by rw [hml]; rfl) (argsL := [(.ref a2), (.int (0 : Int32)), (.int (Int32.ofNat n))]) (rest := []) (lenOf pd_1 rfl) rfl (by show 2 * 0 + _ ≤ _; exact Nat.le_of_eq rfl) (hb hby d2_36) rfl e7 (by decide) (by decide)
  obtain ⟨t1, rfl, Nq8, Kq8, fq8_t1, q8_0⟩ := hQ8
  have ne_a1_t1 : a1 ≠ t1 := Nat.ne_of_lt (Nat.lt_of_lt_of_le E_a1.lt fq8_t1)
  have ne_a2_t1 : a2 ≠ t1 := Nat.ne_of_lt (Nat.lt_of_lt_of_le A_a2.lt fq8_t1)
  have old_t1 : n0 ≤ t1 := Nat.le_trans Z0 fq8_t1
  have fr_t1 : h0.size ≤ t1 := Nat.le_trans K0.1 fq8_t1
  have hpl_Kq8 : ∀ w ∈ ([] : List Addr), ∃ c : Cell, h0[w]? = some c ∧ c.vm.isStatics = false := all0
  have Z0 := Nat.le_trans Z0 Kq8.1
  have K0 := K0.trans Kq8 all0
  have E_a1 := E_a1.keep Kq8
  have F_coder_a1 := F_coder_a1.keep Kq8 nin0
  have F_value_a1 := F_value_a1.keep Kq8 nin0
  have A_a2 := A_a2.keep Kq8 nin0
  have S_COMPACT_STRINGS := own_sta_keep S_COMPACT_STRINGS Kq8 hpl_Kq8
  have Nr8 := Fr.app N0 Nq8
  have A_t1 := q8_0
  refine own_st st8 ?_
  show OGo p e below s _ _ (T8.setTop (mkF m 39 #[.val (.ref a1), .val (.ref a2), .val (.int (0 : Int32)), .val (.int (Int32.ofNat n)), .val .null, .unset] [(.ref t1)]))
  refine own_st (fun tt zk => XS.astore X8.here hx rfl (hb hby d2_39) rfl rfl (l' := #[.val (.ref a1), .val (.ref a2), .val (.int (0 : Int32)), .val (.int (Int32.ofNat n)), .val .null, .val (.ref t1)]) rfl zk) ?_
  show OGo p e below s _ _ (T8.setTop (mkF m 41 #[.val (.ref a1), .val (.ref a2), .val (.int (0 : Int32)), .val (.int (Int32.ofNat n)), .val .null, .val (.ref t1)] []))
  refine own_st (fun tt zk => XS.aloadN X8.here hx rfl (hb hby d2_41) rfl rfl zk) ?_
  show OGo p e below s _ _ (T8.setTop (mkF m 42 #[.val (.ref a1), .val (.ref a2), .val (.int (0 : Int32)), .val (.int (Int32.ofNat n)), .val .null, .val (.ref t1)] [(.ref a1)]))
  refine own_st (fun tt zk => XS.aload X8.here hx rfl (hb hby d2_42) rfl rfl zk) ?_
  show OGo p e below s _ _ (T8.setTop (mkF m 44 #[.val (.ref a1), .val (.ref a2), .val (.int (0 : Int32)), .val (.int (Int32.ofNat n)), .val .null, .val (.ref t1)] [(.ref t1), (.ref a1)]))
  refine own_st (fun tt zk => XS.iloadN X8.here hx rfl (hb hby d2_44) rfl zk) ?_
  show OGo p e below s _ _ (T8.setTop (mkF m 45 #[.val (.ref a1), .val (.ref a2), .val (.int (0 : Int32)), .val (.int (Int32.ofNat n)), .val .null, .val (.ref t1)] [(.int (Int32.ofNat n)), (.ref t1), (.ref a1)]))
  obtain ⟨T9, X9, e9, st9⟩ := own_callSP X8 hx hZ (y := (⟨"java/lang/StringUTF16", "coderFromArrayLen", "([BI)B"⟩ : MethodName)) (W := 1) hown (hw _ (List.mem_of_getElem? (i := 44) rfl)) (hw _ (List.mem_of_getElem? (i := 45) rfl)) (hw _ (List.mem_of_getElem? (i := 39) rfl)) (hw _ (List.mem_of_getElem? (i := 46) rfl)) (by decide) (sc3 l Z a0 hw t1 n (fun j => .int (own_lb (cf j))) T8.heap A_t1) (by decide) (by decide) (g := (mkF m 45 #[.val (.ref a1), .val (.ref a2), .val (.int (0 : Int32)), .val (.int (Int32.ofNat n)), .val .null, .val (.ref t1)] [(.int (Int32.ofNat n)), (.ref t1), (.ref a1)])) rfl (by rw [hml]; rfl) (argsL := [(.ref t1), (.int (Int32.ofNat n))]) (rest := [(.ref a1)]) (lenOf pd_2 rfl) rfl (by show 2 * 0 + _ ≤ _; exact Nat.le_of_eq rfl) (hb hby d2_45) rfl rfl (by decide) (by decide)
  refine own_st st9 ?_
  show OGo p e below s _ _ (T9.setTop (mkF m 48 #[.val (.ref a1), .val (.ref a2), .val (.int (0 : Int32)), .val (.int (Int32.ofNat n)), .val .null, .val (.ref t1)] [(.int (0 : Int32)), (.ref a1)]))
  obtain ⟨T10, hp10, X10, e10, Ww10, st10⟩ := putFN X9 hx hZ hown (hw _ (List.mem_of_getElem? (i := 21) rfl)) Via.refl e9 F_coder_a1 E_a1 (Or.inr ⟨(hw _ (List.mem_of_getElem? (i := 17) rfl)), rfl, hnm⟩) (hw _ (List.mem_of_getElem? (i := 1) rfl)) (ty := .byte) (v' := (.int (0 : Int32))) (by decide) rfl (by decide) (g := (mkF m 48 #[.val (.ref a1), .val (.ref a2), .val (.int (0 : Int32)), .val (.int (Int32.ofNat n)), .val .null, .val (.ref t1)] [(.int (0 : Int32)), (.ref a1)])) rfl rfl (hb hby d2_48)
  have Nf10 := Fr.snoc X10 Nr8 old_a1
  have Z0 := Nat.le_trans Z0 (Keep.of_wr Ww10).1
  have K0 := K0.wr Ww10 (Or.inl (List.mem_of_getElem? (i := 0) rfl))
  have E_a1 := E_a1.wr Ww10
  have F_coder_a1 := F_coder_a1.same Ww10
  have F_value_a1 := F_value_a1.other Ww10 (Or.inr (slot_ne (Or.inr (hw _ (List.mem_of_getElem? (i := 16) rfl))) (Or.inr (hw _ (List.mem_of_getElem? (i := 17) rfl))) (by decide) (t := (.array .byte)) (t' := .byte) (by decide) (by decide)))
  have A_a2 := A_a2.other Ww10 ne_a2_a1
  have S_COMPACT_STRINGS := S_COMPACT_STRINGS.wr Ww10
  have A_t1 := A_t1.other Ww10 (Ne.symm ne_a1_t1)
  refine own_st st10 ?_
  show OGo p e below s _ _ (T10.setTop (mkF m 51 #[.val (.ref a1), .val (.ref a2), .val (.int (0 : Int32)), .val (.int (Int32.ofNat n)), .val .null, .val (.ref t1)] []))
  refine own_st (fun tt zk => XS.aloadN X10.here hx rfl (hb hby d2_51) rfl rfl zk) ?_
  show OGo p e below s _ _ (T10.setTop (mkF m 52 #[.val (.ref a1), .val (.ref a2), .val (.int (0 : Int32)), .val (.int (Int32.ofNat n)), .val .null, .val (.ref t1)] [(.ref a1)]))
  refine own_st (fun tt zk => XS.aload X10.here hx rfl (hb hby d2_52) rfl rfl zk) ?_
  show OGo p e below s _ _ (T10.setTop (mkF m 54 #[.val (.ref a1), .val (.ref a2), .val (.int (0 : Int32)), .val (.int (Int32.ofNat n)), .val .null, .val (.ref t1)] [(.ref t1), (.ref a1)]))
  obtain ⟨T11, hp11, X11, e11, Ww11, st11⟩ := putF X10 hx hZ hown (host := "") (Or.inl (hw _ (List.mem_of_getElem? (i := 20) rfl))) Via.refl e10 F_value_a1 E_a1 (Or.inr ⟨(hw _ (List.mem_of_getElem? (i := 16) rfl)), rfl, hnm⟩) (hw _ (List.mem_of_getElem? (i := 1) rfl)) (ty := (.array .byte)) (by decide) rfl rfl (g := (mkF m 54 #[.val (.ref a1), .val (.ref a2), .val (.int (0 : Int32)), .val (.int (Int32.ofNat n)), .val .null, .val (.ref t1)] [(.ref t1), (.ref a1)])) rfl rfl (hb hby d2_54)
  have Nf11 := Fr.snoc X11 Nf10 old_a1
  have Z0 := Nat.le_trans Z0 (Keep.of_wr Ww11).1
  have K0 := K0.wr Ww11 (Or.inl (List.mem_of_getElem? (i := 0) rfl))
  have E_a1 := E_a1.wr Ww11
  have F_coder_a1 := F_coder_a1.other Ww11 (Or.inr (slot_ne (Or.inr (hw _ (List.mem_of_getElem? (i := 17) rfl))) (Or.inr (hw _ (List.mem_of_getElem? (i := 16) rfl))) (by decide) (t := .byte) (t' := (.array .byte)) (by decide) (by decide)))
  have F_value_a1 := F_value_a1.same Ww11
  have A_a2 := A_a2.other Ww11 ne_a2_a1
  have S_COMPACT_STRINGS := S_COMPACT_STRINGS.wr Ww11
  have A_t1 := A_t1.other Ww11 (Ne.symm ne_a1_t1)
  refine own_st st11 ?_
  show OGo p e below s _ _ (T11.setTop (mkF m 57 #[.val (.ref a1), .val (.ref a2), .val (.int (0 : Int32)), .val (.int (Int32.ofNat n)), .val .null, .val (.ref t1)] []))
  exact own_retV X11 hx hlk hret (hb hby d2_57) (by decide) (by decide) (⟨t1, rfl, Nf11, (by rw [e11]; exact K0), fr_t1, (by rw [e11]; exact E_a1), (by rw [e11]; exact F_coder_a1), (by rw [e11]; exact F_value_a1), (by rw [e11]; exact A_t1)⟩)
theorem d1_0 : decode jdk_42_method_3_code 0 = .ok (.aload_n 0, 1) := by decide +kernel
theorem d1_1 : decode jdk_42_method_3_code 1 = .ok (.aload_n 1, 1) := by decide +kernel
theorem d1_2 : decode jdk_42_method_3_code 2 = .ok (.iconst 0, 1) := by decide +kernel
theorem d1_3 : decode jdk_42_method_3_code 3 = .ok (.aload_n 1, 1) := by decide +kernel
theorem d1_4 : decode jdk_42_method_3_code 4 = .ok (.arraylength, 1) := by decide +kernel
theorem d1_5 : decode jdk_42_method_3_code 5 = .ok (.aconst_null, 1) := by decide +kernel
theorem d1_6 : decode jdk_42_method_3_code 6 = .ok (.invokespecial 27, 3) := by decide +kernel
theorem pd_3 : parseMethodDescriptor "([CIILjava/lang/Void;)V" = some ⟨[(.array .char), .int, .int, (.object "java/lang/Void")], none⟩ := by decide +kernel
theorem d1_9 : decode jdk_42_method_3_code 9 = .ok (.return_, 1) := by decide +kernel
theorem ef_1_RR (m : MethodId) (x0 : Addr) (x1 : Addr) : entryFrame m #[(.ref x0), (.ref x1)] 2 = mkF m 0 #[.val (.ref x0), .val (.ref x1)] [] := by first | (simp [entryFrame, mkF, argsToLocals, Value.category]; done) | rfl
set_option maxRecDepth 65536 in
set_option maxHeartbeats 40000000 in
theorem sc5 (l : Launch) (Z : State) (a0 : Array Value) (hw : ∀ d ∈ tables_1, d.before a0 Z = true) (a1 : Addr) (a2 : Addr) (n : Nat) (cf : Nat → Int32) (cs : Int32) (h0 : Heap) (n0 : Nat) (Z0 : n0 ≤ h0.size) (old_a1 : n0 ≤ a1) (ne_a2_a1 : a2 ≠ a1) (E_a1 : Exa Z h0 a1 "java/lang/String") (F_coder_a1 : Fld Z h0 a1 "java/lang/String" "coder" "B" (.int (0 : Int32))) (F_value_a1 : Fld Z h0 a1 "java/lang/String" "value" "[B" .null) (A_a2 : OAr Z h0 a2 .char n (fun j => .int (cf j))) (S_COMPACT_STRINGS : Sta Z h0 "java/lang/String" "COMPACT_STRINGS" "Z" (.int cs)) (hn : n ≤ 3) (h1 : 0 < n) (hc : ∀ j, j < n → ¬ (255 : Int32) < cf j) (hcs : ¬ cs = (0 : Int32)) :
    OMet l Z (⟨"java/lang/String", "<init>", "([C)V"⟩ : MethodName) jdk_42_method_3_code 2 none [] ({ frames := 3, cells := 1, slots := 3, locals := 52 } : Room) #[(.ref a1), (.ref a2)] h0 (fun v h' L => ∃ t1 : Addr, v = none ∧ Fr n0 L ∧ Keep h0 h' [a1] ∧ h0.size ≤ t1 ∧ Exa Z h' a1 "java/lang/String" ∧ Fld Z h' a1 "java/lang/String" "coder" "B" (.int (0 : Int32)) ∧ Fld Z h' a1 "java/lang/String" "value" "[B" (.ref t1) ∧ OAr Z h' t1 .byte n (fun j => .int (own_lb (cf j)))) := by
  refine own_body (plainFor_of_name pn_java_lang_String) (fun m => ef_1_RR m a1 a2) ?_
  intro p e s m below meth c T0 hx hby hml hown hnm hret hlk hZ X0 e0
  have hown : s.vm.findClass "java/lang/String" = some m.cls := hown
  have hml : c.maxLocals = 2 := hml
  have N0 := Fr.nil n0
  have K0 := Keep.refl h0 [a1]
  show OGo p e below s _ _ (T0.setTop (mkF m 0 #[.val (.ref a1), .val (.ref a2)] []))
  refine own_st (fun tt zk => XS.aloadN X0.here hx rfl (hb hby d1_0) rfl rfl zk) ?_
  show OGo p e below s _ _ (T0.setTop (mkF m 1 #[.val (.ref a1), .val (.ref a2)] [(.ref a1)]))
  refine own_st (fun tt zk => XS.aloadN X0.here hx rfl (hb hby d1_1) rfl rfl zk) ?_
  show OGo p e below s _ _ (T0.setTop (mkF m 2 #[.val (.ref a1), .val (.ref a2)] [(.ref a2), (.ref a1)]))
  refine own_st (fun tt zk => XS.iconst X0.here hx rfl (hb hby d1_2) zk) ?_
  show OGo p e below s _ _ (T0.setTop (mkF m 3 #[.val (.ref a1), .val (.ref a2)] [(.int (0 : Int32)), (.ref a2), (.ref a1)]))
  refine own_st (fun tt zk => XS.aloadN X0.here hx rfl (hb hby d1_3) rfl rfl zk) ?_
  show OGo p e below s _ _ (T0.setTop (mkF m 4 #[.val (.ref a1), .val (.ref a2)] [(.ref a2), (.int (0 : Int32)), (.ref a2), (.ref a1)]))
  obtain ⟨cl12, Ar12, Sz12, -⟩ := id A_a2
  refine own_st (X0.arraylength hx (by rw [e0]; exact Ar12.1) (State.isArrayOf_alike hZ.alike Ar12.2.1) (g := (mkF m 4 #[.val (.ref a1), .val (.ref a2)] [(.ref a2), (.int (0 : Int32)), (.ref a2), (.ref a1)])) rfl rfl (hb hby d1_4)) ?_
  rw [Sz12, own_len n]
  show OGo p e below s _ _ (T0.setTop (mkF m 5 #[.val (.ref a1), .val (.ref a2)] [(.int (Int32.ofNat n)), (.int (0 : Int32)), (.ref a2), (.ref a1)]))
  refine own_st (fun tt zk => XS.aconstNull X0.here hx rfl (hb hby d1_5) zk) ?_
  show OGo p e below s _ _ (T0.setTop (mkF m 6 #[.val (.ref a1), .val (.ref a2)] [.null, (.int (Int32.ofNat n)), (.int (0 : Int32)), (.ref a2), (.ref a1)]))
  obtain ⟨_, T13, Lc13, X13, hQ13, st13⟩ := own_callI X0 hx hZ (y := (⟨"java/lang/String", "<init>", "([CIILjava/lang/Void;)V"⟩ : MethodName)) (W := 0) rfl hown (hw _ (List.mem_of_getElem? (i := 7) rfl)) (hw _ (List.mem_of_getElem? (i := 8) rfl)) (hw _ (List.mem_of_getElem? (i := 10) rfl)) (hw _ (List.mem_of_getElem? (i := 2) rfl)) (by decide) (sc4 l Z a0 hw a1 a2 n cf cs h0 n0 Z0 old_a1 ne_a2_a1 E_a1 F_coder_a1 F_value_a1 A_a2 S_COMPACT_STRINGS hn h1 hc hcs) (by decide) (by decide) (a := a1) (g := (mkF m 6 #[.val (.ref a1), .val (.ref a2)] [.null, (.int (Int32.ofNat n)), (.int (0 : Int32)), (.ref a2), (.ref a1)])) rfl (by rw [hml]; rfl) (argsL := [(.ref a2), (.int (0 : Int32)), (.int (Int32.ofNat n)), .null]) (rest := []) (lenOf pd_3 rfl) rfl (by show 2 * 0 + _ ≤ _; exact Nat.le_of_eq rfl) (hb hby d1_6) rfl e0 (by decide) (by decide)
  obtain ⟨t1, rfl, Nq13, Kq13, fq13_t1, q13_0, q13_1, q13_2, q13_3⟩ := hQ13
  have ne_a1_t1 : a1 ≠ t1 := Nat.ne_of_lt (Nat.lt_of_lt_of_le E_a1.lt fq13_t1)
  have ne_a2_t1 : a2 ≠ t1 := Nat.ne_of_lt (Nat.lt_of_lt_of_le A_a2.lt fq13_t1)
  have old_t1 : n0 ≤ t1 := Nat.le_trans Z0 fq13_t1
  have fr_t1 : h0.size ≤ t1 := Nat.le_trans K0.1 fq13_t1
  have hpl_Kq13 : ∀ w ∈ [a1], ∃ c : Cell, h0[w]? = some c ∧ c.vm.isStatics = false := (allS (own_pl_exa E_a1) all0)
  have Z0 := Nat.le_trans Z0 Kq13.1
  have K0 := K0.trans Kq13 (allS (Or.inl (List.mem_of_getElem? (i := 0) rfl)) all0)
  have A_a2 := A_a2.keep Kq13 (ninS ne_a2_a1 nin0)
  have S_COMPACT_STRINGS := own_sta_keep S_COMPACT_STRINGS Kq13 hpl_Kq13
  have Nr13 := Fr.app N0 Nq13
  have E_a1 := q13_0
  have F_coder_a1 := q13_1
  have F_value_a1 := q13_2
  have A_t1 := q13_3
  refine own_st st13 ?_
  show OGo p e below s _ _ (T13.setTop (mkF m 9 #[.val (.ref a1), .val (.ref a2)] []))
  exact own_retV X13 hx hlk hret (hb hby d1_9) (by decide) (by decide) (⟨t1, rfl, Nr13, K0, fr_t1, E_a1, F_coder_a1, F_value_a1, A_t1⟩)
theorem d6_0 : decode jdk_42_method_152_code 0 = .ok (.getstatic 38, 3) := by decide +kernel
theorem d6_3 : decode jdk_42_method_152_code 3 = .ok (.ifCond .eq 10, 3) := by decide +kernel
theorem d6_6 : decode jdk_42_method_152_code 6 = .ok (.aload_n 0, 1) := by decide +kernel
theorem d6_7 : decode jdk_42_method_152_code 7 = .ok (.getfield 15, 3) := by decide +kernel
theorem d6_10 : decode jdk_42_method_152_code 10 = .ok (.goto 4, 3) := by decide +kernel
theorem d6_14 : decode jdk_42_method_152_code 14 = .ok (.ireturn, 1) := by decide +kernel
theorem ef_6_R (m : MethodId) (x0 : Addr) : entryFrame m #[(.ref x0)] 1 = mkF m 0 #[.val (.ref x0)] [] := by first | (simp [entryFrame, mkF, argsToLocals, Value.category]; done) | rfl
set_option maxRecDepth 65536 in
set_option maxHeartbeats 40000000 in
theorem sc6 (l : Launch) (Z : State) (a0 : Array Value) (hw : ∀ d ∈ tables_1, d.before a0 Z = true) (a1 : Addr) (cs : Int32) (h0 : Heap) (F_coder_a1 : Fld Z h0 a1 "java/lang/String" "coder" "B" (.int (0 : Int32))) (S_COMPACT_STRINGS : Sta Z h0 "java/lang/String" "COMPACT_STRINGS" "Z" (.int cs)) (hcs : ¬ cs = (0 : Int32)) :
    OPure l Z (⟨"java/lang/String", "coder", "()B"⟩ : MethodName) jdk_42_method_152_code 1 (some .byte) [] ({ frames := 0, cells := 0, slots := 0, locals := 0 } : Room) #[(.ref a1)] h0 (some (.int (0 : Int32))) := by
  refine own_body (plainFor_of_name pn_java_lang_String) (fun m => ef_6_R m a1) ?_
  intro p e s m below meth c T0 hx hby hml hown hnm hret hlk hZ X0 e0
  have hown : s.vm.findClass "java/lang/String" = some m.cls := hown
  have hml : c.maxLocals = 1 := hml
  show OGo p e below s _ _ (T0.setTop (mkF m 0 #[.val (.ref a1)] []))
  obtain ⟨T14, X14, e14, st14⟩ := getS2 X0 hx hZ hown (host := "") (Or.inl (hw _ (List.mem_of_getElem? (i := 36) rfl))) Via.refl e0 S_COMPACT_STRINGS (g := (mkF m 0 #[.val (.ref a1)] [])) rfl (hb hby d6_0)
  refine own_st st14 ?_
  show OGo p e below s _ _ (T14.setTop (mkF m 3 #[.val (.ref a1)] [(.int cs)]))
  refine own_st (fun tt zk => XS.ifNo X14.here hx rfl (hb hby d6_3) rfl ((if0 _ _).trans (feq (hcs)).1) zk) ?_
  show OGo p e below s _ _ (T14.setTop (mkF m 6 #[.val (.ref a1)] []))
  refine own_st (fun tt zk => XS.aloadN X14.here hx rfl (hb hby d6_6) rfl rfl zk) ?_
  show OGo p e below s _ _ (T14.setTop (mkF m 7 #[.val (.ref a1)] [(.ref a1)]))
  obtain ⟨T15, X15, e15, st15⟩ := getF X14 hx hZ hown (host := "") (Or.inl (hw _ (List.mem_of_getElem? (i := 21) rfl))) Via.refl e14 F_coder_a1 (g := (mkF m 7 #[.val (.ref a1)] [(.ref a1)])) rfl rfl (hb hby d6_7)
  refine own_st st15 ?_
  show OGo p e below s _ _ (T15.setTop (mkF m 10 #[.val (.ref a1)] [(.int (0 : Int32))]))
  refine own_st (fun tt zk => XS.goto X15.here hx rfl (pc0 := 10) (pc' := 14) rfl (hb hby d6_10) (by decide) (by decide) zk) ?_
  show OGo p e below s _ _ (T15.setTop (mkF m 14 #[.val (.ref a1)] [(.int (0 : Int32))]))
  exact own_retN X15 hx hlk (t := .byte) hret (by simp) (hb hby d6_14) (by decide) (by decide) (⟨rfl, rfl, e15⟩)
theorem d5_0 : decode jdk_42_method_54_code 0 = .ok (.aload_n 0, 1) := by decide +kernel
theorem d5_1 : decode jdk_42_method_54_code 1 = .ok (.getfield 9, 3) := by decide +kernel
theorem d5_4 : decode jdk_42_method_54_code 4 = .ok (.arraylength, 1) := by decide +kernel
theorem d5_5 : decode jdk_42_method_54_code 5 = .ok (.aload_n 0, 1) := by decide +kernel
theorem d5_6 : decode jdk_42_method_54_code 6 = .ok (.invokevirtual 335, 3) := by decide +kernel
theorem pd_4 : parseMethodDescriptor "()B" = some ⟨[], some .byte⟩ := by decide +kernel
theorem d5_9 : decode jdk_42_method_54_code 9 = .ok (.ishr, 1) := by decide +kernel
theorem d5_10 : decode jdk_42_method_54_code 10 = .ok (.ireturn, 1) := by decide +kernel
theorem ef_5_R (m : MethodId) (x0 : Addr) : entryFrame m #[(.ref x0)] 1 = mkF m 0 #[.val (.ref x0)] [] := by first | (simp [entryFrame, mkF, argsToLocals, Value.category]; done) | rfl
set_option maxRecDepth 65536 in
set_option maxHeartbeats 40000000 in
theorem sc7 (l : Launch) (Z : State) (a0 : Array Value) (hw : ∀ d ∈ tables_1, d.before a0 Z = true) (a1 : Addr) (t1 : Addr) (n : Nat) (cf : Nat → Int32) (cs : Int32) (h0 : Heap) (E_a1 : Exa Z h0 a1 "java/lang/String") (F_coder_a1 : Fld Z h0 a1 "java/lang/String" "coder" "B" (.int (0 : Int32))) (F_value_a1 : Fld Z h0 a1 "java/lang/String" "value" "[B" (.ref t1)) (A_t1 : OAr Z h0 t1 .byte n (fun j => .int (own_lb (cf j)))) (S_COMPACT_STRINGS : Sta Z h0 "java/lang/String" "COMPACT_STRINGS" "Z" (.int cs)) (hcs : ¬ cs = (0 : Int32)) :
    OPure l Z (⟨"java/lang/String", "length", "()I"⟩ : MethodName) jdk_42_method_54_code 1 (some .int) [] ({ frames := 1, cells := 0, slots := 0, locals := 13 } : Room) #[(.ref a1)] h0 (some (.int (Int32.ofNat n))) := by
  refine own_body (plainFor_of_name pn_java_lang_String) (fun m => ef_5_R m a1) ?_
  intro p e s m below meth c T0 hx hby hml hown hnm hret hlk hZ X0 e0
  have hown : s.vm.findClass "java/lang/String" = some m.cls := hown
  have hml : c.maxLocals = 1 := hml
  show OGo p e below s _ _ (T0.setTop (mkF m 0 #[.val (.ref a1)] []))
  refine own_st (fun tt zk => XS.aloadN X0.here hx rfl (hb hby d5_0) rfl rfl zk) ?_
  show OGo p e below s _ _ (T0.setTop (mkF m 1 #[.val (.ref a1)] [(.ref a1)]))
  obtain ⟨T16, X16, e16, st16⟩ := getF X0 hx hZ hown (host := "") (Or.inl (hw _ (List.mem_of_getElem? (i := 20) rfl))) Via.refl e0 F_value_a1 (g := (mkF m 1 #[.val (.ref a1)] [(.ref a1)])) rfl rfl (hb hby d5_1)
  refine own_st st16 ?_
  show OGo p e below s _ _ (T16.setTop (mkF m 4 #[.val (.ref a1)] [(.ref t1)]))
  obtain ⟨cl17, Ar17, Sz17, -⟩ := id A_t1
  refine own_st (X16.arraylength hx (by rw [e16]; exact Ar17.1) (State.isArrayOf_alike hZ.alike Ar17.2.1) (g := (mkF m 4 #[.val (.ref a1)] [(.ref t1)])) rfl rfl (hb hby d5_4)) ?_
  rw [Sz17, own_len n]
  show OGo p e below s _ _ (T16.setTop (mkF m 5 #[.val (.ref a1)] [(.int (Int32.ofNat n))]))
  refine own_st (fun tt zk => XS.aloadN X16.here hx rfl (hb hby d5_5) rfl rfl zk) ?_
  show OGo p e below s _ _ (T16.setTop (mkF m 6 #[.val (.ref a1)] [(.ref a1), (.int (Int32.ofNat n))]))
  obtain ⟨T18, X18, e18, st18⟩ := own_callVP X16 hx hZ (y := (⟨"java/lang/String", "coder", "()B"⟩ : MethodName)) (z := (⟨"java/lang/String", "coder", "()B"⟩ : MethodName)) (W := 1) hown (hw _ (List.mem_of_getElem? (i := 31) rfl)) (hw _ (List.mem_of_getElem? (i := 32) rfl)) (notFace_of_selects (args := #[]) (mvT hZ (hw _ (List.mem_of_getElem? (i := 34) rfl)))) (hw _ (List.mem_of_getElem? (i := 34) rfl)) (hw _ (List.mem_of_getElem? (i := 33) rfl)) (hw _ (List.mem_of_getElem? (i := 35) rfl)) (hw _ (List.mem_of_getElem? (i := 2) rfl)) (by decide) (sc6 l Z a0 hw a1 cs h0 F_coder_a1 S_COMPACT_STRINGS hcs) (by decide) (by decide) E_a1 (g := (mkF m 6 #[.val (.ref a1)] [(.ref a1), (.int (Int32.ofNat n))])) rfl (by rw [hml]; rfl) (argsL := []) (rest := [(.int (Int32.ofNat n))]) (lenOf pd_4 rfl) rfl (by show 2 * 0 + _ ≤ _; exact Nat.le_of_eq rfl) (hb hby d5_6) rfl e16 (by decide) (by decide)
  refine own_st st18 ?_
  show OGo p e below s _ _ (T18.setTop (mkF m 9 #[.val (.ref a1)] [(.int (0 : Int32)), (.int (Int32.ofNat n))]))
  refine own_st (fun tt zk => XS.ishr X18.here hx rfl (hb hby d5_9) rfl zk) ?_
  show OGo p e below s _ _ (T18.setTop (mkF m 10 #[.val (.ref a1)] [(.int ((Int32.ofNat n) >>> ((0 : Int32) &&& 31)))]))
  rw [own_shr0]
  exact own_retI X18 hx hlk hret (hb hby d5_10) (by decide) (by decide) (⟨rfl, rfl, e18⟩)
/-- the bytes of a UTF-16 string -/
def own_u8 (x : Int32) (k : Nat) : Int32 := if k = 0 then nar .byte x.toInt8.toInt32 else nar .byte (x >>> ((8 : Int32) &&& 31)).toInt8.toInt32
def own_ub (f : Nat → Int32) (j : Nat) : Value := .int (own_u8 (f (j / 2)) (j % 2))
def own_ubs (f : Nat → Int32) (g : Nat → Value) (k j : Nat) : Value := if j < 2 * k then own_ub f j else g j
theorem own_ubs0 (f : Nat → Int32) (g : Nat → Value) (n : Nat) : ∀ j, j < n → g j = own_ubs f g 0 j := fun j _ => by simp [own_ubs]
theorem own_ubsN (f : Nat → Int32) (g : Nat → Value) (n : Nat) : ∀ j, j < 2 * n → own_ubs f g n j = own_ub f j := fun j hj => by simp [own_ubs, hj]
theorem own_ubsS (f : Nat → Int32) (g : Nat → Value) (m i : Nat) : ∀ j, j < m → (if j = 2 * i + 1 then Value.int (own_u8 (f i) 1) else if j = 2 * i then Value.int (own_u8 (f i) 0) else own_ubs f g i j) = own_ubs f g (i + 1) j := fun j _ => by
  by_cases q : j = 2 * i + 1
  · subst q
    have e1 : (2 * i + 1) / 2 = i := by omega
    have e2 : (2 * i + 1) % 2 = 1 := by omega
    have e3 : 2 * i + 1 < 2 * (i + 1) := by omega
    simp [own_ubs, own_ub, e1, e3]
  · by_cases q2 : j = 2 * i
    · subst q2
      have e1 : (2 * i) / 2 = i := by omega
      have e2 : (2 * i) % 2 = 0 := by omega
      have e3 : 2 * i < 2 * (i + 1) := by omega
      have e4 : 2 * i ≠ 2 * i + 1 := by omega
      simp [own_ubs, own_ub, e1, e2, e3, e4]
    · have e : (j < 2 * (i + 1)) ↔ (j < 2 * i) := by omega
      simp [own_ubs, q, q2, e]
theorem own_shl1 (i : Nat) (hi : i < 2 ^ 29) : Int32.ofNat i <<< ((1 : Int32) &&& 31) = Int32.ofNat (2 * i) := by
  have h := c_ishl (Int32.ofNat i) 1 1 (by decide)
  have e1 := (own_nat (i := i) (by omega)).2.2
  have e2 := (own_nat (i := 2 * i) (by omega)).2.2
  have r := rng32 (Int32.ofNat i <<< ((1 : Int32) &&& 31))
  exact Int32.toInt_inj.mp (by rw [e2]; omega)
theorem own_shr1 (i : Nat) (hi : i < 2 ^ 29) : Int32.ofNat (2 * i) >>> ((1 : Int32) &&& 31) = Int32.ofNat i := by
  have h := c_ishr (Int32.ofNat (2 * i)) 1 1 (by decide)
  have e1 := (own_nat (i := i) (by omega)).2.2
  have e2 := (own_nat (i := 2 * i) (by omega)).2.2
  exact Int32.toInt_inj.mp (by rw [h, e1, e2]; omega)
theorem own_u8_t (x : Int32) (h0 : 0 ≤ x.toInt) (h1 : x.toInt < 65536) : (own_u8 x 0 &&& (255 : Int32)).toInt = x.toInt % 256 ∧ (own_u8 x 1 &&& (255 : Int32)).toInt = x.toInt / 256 := by
  have m0 := c_mask (own_u8 x 0) 255 8 (by decide) (by decide)
  have m1 := c_mask (own_u8 x 1) 255 8 (by decide) (by decide)
  have a0 := c_i2b x
  have a1 := c_i2b x.toInt8.toInt32
  have s1 := c_ishr x 8 8 (by decide)
  have b0 := c_i2b (x >>> ((8 : Int32) &&& 31))
  have b1 := c_i2b (x >>> ((8 : Int32) &&& 31)).toInt8.toInt32
  have e0 : own_u8 x 0 = x.toInt8.toInt32.toInt8.toInt32 := rfl
  have e1 : own_u8 x 1 = (x >>> ((8 : Int32) &&& 31)).toInt8.toInt32.toInt8.toInt32 := rfl
  rw [e0] at m0
  rw [e1] at m1
  rw [e0, e1]
  omega
theorem own_gc (x : Int32) (h0 : 0 ≤ x.toInt) (h1 : x.toInt < 65536) : (((own_u8 x 0 &&& (255 : Int32)) <<< ((0 : Int32) &&& 31)) ||| ((own_u8 x 1 &&& (255 : Int32)) <<< ((8 : Int32) &&& 31))).toUInt32.toUInt16.toUInt32.toInt32 = x := by
  obtain ⟨t0, t1⟩ := own_u8_t x h0 h1
  generalize (own_u8 x 0 &&& (255 : Int32)) = u at *
  generalize (own_u8 x 1 &&& (255 : Int32)) = v at *
  have s0 := c_ishl u 0 0 (by decide)
  have s8 := c_ishl v 8 8 (by decide)
  have r0 := rng32 (u <<< ((0 : Int32) &&& 31))
  have r8 := rng32 (v <<< ((8 : Int32) &&& 31))
  generalize (u <<< ((0 : Int32) &&& 31)) = u' at *
  generalize (v <<< ((8 : Int32) &&& 31)) = v' at *
  have o := c_or' u' v' 8 (by decide) 256 (by decide) (by omega) (by omega) (by omega)
  have ro := rng32 (u' ||| v')
  have i := c_i2c (u' ||| v')
  exact Int32.toInt_inj.mp (by omega)
theorem own_nc (x : Int32) (h0 : 0 ≤ x.toInt) (h1 : x.toInt < 65536) : nar .char x = x := by
  have i := c_i2c x
  exact Int32.toInt_inj.mp (by show x.toUInt32.toUInt16.toUInt32.toInt32.toInt = _; omega)
theorem own_lb_t (x : Int32) (h0 : 0 ≤ x.toInt) (h1 : ¬ (255 : Int32) < x) : (own_lb x &&& (255 : Int32)).toUInt32.toUInt16.toUInt32.toInt32 = x := by
  rw [Int32.lt_iff_toInt_lt, show (255 : Int32).toInt = 255 from by decide] at h1
  have m0 := c_mask (own_lb x) 255 8 (by decide) (by decide)
  have a0 := c_i2b x
  have a1 := c_i2b x.toInt8.toInt32
  have e0 : own_lb x = x.toInt8.toInt32.toInt8.toInt32 := rfl
  rw [e0] at m0 ⊢
  have i := c_i2c (x.toInt8.toInt32.toInt8.toInt32 &&& 255)
  exact Int32.toInt_inj.mp (by omega)
theorem own_cfaU (n : Nat) (h0 : 0 < n) (hn : n < 2 ^ 29) : (((Int32.ofNat n - Int32.ofNat (2 * n)).toUInt32 >>> ((31 : Int32) &&& 31).toUInt32).toInt32).toInt8.toInt32 = 1 := by
  have e1 := (own_nat (i := n) (by omega)).2.2
  have e2 := (own_nat (i := 2 * n) (by omega)).2.2
  have a := c_isub (Int32.ofNat n) (Int32.ofNat (2 * n))
  have r := rng32 (Int32.ofNat n - Int32.ofNat (2 * n))
  have u : (((Int32.ofNat n - Int32.ofNat (2 * n)).toUInt32 >>> ((31 : Int32) &&& 31).toUInt32).toInt32).toInt = ((Int32.ofNat n - Int32.ofNat (2 * n)).toInt % 4294967296) / (2 ^ 31 : Nat) := c_iushr _ 31 31 (by decide) (by decide)
  have i := c_i2b ((Int32.ofNat n - Int32.ofNat (2 * n)).toUInt32 >>> ((31 : Int32) &&& 31).toUInt32).toInt32
  exact Int32.toInt_inj.mp (by rw [show (1 : Int32).toInt = 1 from by decide]; omega)
theorem d8_23 : decode jdk_52_method_21_code 23 = .ok (.iload 5, 2) := by decide +kernel
theorem d8_25 : decode jdk_52_method_21_code 25 = .ok (.ireturn, 1) := by decide +kernel
set_option maxRecDepth 65536 in
set_option maxHeartbeats 40000000 in
theorem su1 (l : Launch) (Z : State) (a0 : Array Value) (hw : ∀ d ∈ tables_1, d.before a0 Z = true) (a1 : Addr) (a2 : Addr) (n : Nat) (k : Nat) (cf : Nat → Int32) (gf : Nat → Value) (h0 : Heap) (n0 : Nat) (Z0 : n0 ≤ h0.size) (old_a2 : n0 ≤ a2) (ne_a1_a2 : a1 ≠ a2) (A_a1 : OAr Z h0 a1 .char n (fun j => .int (cf j))) (A_a2 : OAr Z h0 a2 .byte n gf) (hn : n < 2 ^ 31) (hk : k < n) (hc : ∀ j, j < k → ¬ (255 : Int32) < cf j) (hck : (255 : Int32) < cf k) :
    OMet l Z (⟨"java/lang/StringUTF16", "compress", "([CI[BII)I"⟩ : MethodName) jdk_52_method_21_code 7 (some .int) [] ({ frames := 0, cells := 0, slots := 0, locals := 0 } : Room) #[(.ref a1), (.int (0 : Int32)), (.ref a2), (.int (0 : Int32)), (.int (Int32.ofNat n))] h0 (fun v h' L => v = some (.int (Int32.ofNat k)) ∧ Fr n0 L ∧ Keep h0 h' [a2] ∧ OAr Z h' a2 .byte n (own_lbs cf gf k)) := by
  refine own_body (plainFor_of_name pn_java_lang_StringUTF16) (fun m => ef_8_RIRII m a1 (0 : Int32) a2 (0 : Int32) (Int32.ofNat n)) ?_
  intro p e s m below meth c T0 hx hby hml hown hnm hret hlk hZ X0 e0
  have hown : s.vm.findClass "java/lang/StringUTF16" = some m.cls := hown
  have hml : c.maxLocals = 7 := hml
  have N0 := Fr.nil n0
  have K0 := Keep.refl h0 [a2]
  show OGo p e below s _ _ (T0.setTop (mkF m 0 #[.val (.ref a1), .val (.int (0 : Int32)), .val (.ref a2), .val (.int (0 : Int32)), .val (.int (Int32.ofNat n)), .unset, .unset] []))
  refine own_st (fun tt zk => XS.iconst X0.here hx rfl (hb hby d8_0) zk) ?_
  show OGo p e below s _ _ (T0.setTop (mkF m 1 #[.val (.ref a1), .val (.int (0 : Int32)), .val (.ref a2), .val (.int (0 : Int32)), .val (.int (Int32.ofNat n)), .unset, .unset] [(.int (0 : Int32))]))
  refine own_st (fun tt zk => XS.istore X0.here hx rfl (hb hby d8_1) rfl (l' := #[.val (.ref a1), .val (.int (0 : Int32)), .val (.ref a2), .val (.int (0 : Int32)), .val (.int (Int32.ofNat n)), .val (.int (0 : Int32)), .unset]) rfl zk) ?_
  show OGo p e below s _ _ (T0.setTop (mkF m 3 #[.val (.ref a1), .val (.int (0 : Int32)), .val (.ref a2), .val (.int (0 : Int32)), .val (.int (Int32.ofNat n)), .val (.int (0 : Int32)), .unset] []))
  have A_a2 := A_a2.cong (own_lbs0 cf gf n)
  have loop : ∀ (d i : Nat) (TL : State) (LL : List Loc) (hL : Heap) (s6 : Slot), i + d = k → One s6 → Stand p l e ({ frames := 0, cells := 0, slots := 0, locals := 0 } : Room) s m #[(.ref a1), (.int (0 : Int32)), (.ref a2), (.int (0 : Int32)), (.int (Int32.ofNat n))] below meth c TL LL 0 0 → TL.heap = hL → Fr n0 LL → n0 ≤ hL.size → Keep h0 hL [a2] → OAr Z hL a1 .char n (fun j => .int (cf j)) → OAr Z hL a2 .byte n (own_lbs cf gf i) → OGo p e below s ({ frames := 0, cells := 0, slots := 0, locals := 0 } : Room) (fun v h' L => v = some (.int (Int32.ofNat k)) ∧ Fr n0 L ∧ Keep h0 h' [a2] ∧ OAr Z h' a2 .byte n (own_lbs cf gf k)) (TL.setTop (mkF m 3 #[.val (.ref a1), .val (.int (Int32.ofNat i)), .val (.ref a2), .val (.int (Int32.ofNat i)), .val (.int (Int32.ofNat n)), .val (.int (Int32.ofNat i)), s6] [])) := by
    intro d
    induction d with
    | zero =>
      intro i TL LL hL s6 hi hs6 XL eL NL Z0 K0 A_a1 A_a2
      obtain rfl : i = k := by omega
      show OGo p e below s _ _ (TL.setTop (mkF m 3 #[.val (.ref a1), .val (.int (Int32.ofNat i)), .val (.ref a2), .val (.int (Int32.ofNat i)), .val (.int (Int32.ofNat n)), .val (.int (Int32.ofNat i)), s6] []))
      refine own_st (fun tt zk => XS.iload XL.here hx rfl (hb hby d8_3) rfl zk) ?_
      show OGo p e below s _ _ (TL.setTop (mkF m 5 #[.val (.ref a1), .val (.int (Int32.ofNat i)), .val (.ref a2), .val (.int (Int32.ofNat i)), .val (.int (Int32.ofNat n)), .val (.int (Int32.ofNat i)), s6] [(.int (Int32.ofNat i))]))
      refine own_st (fun tt zk => XS.iload XL.here hx rfl (hb hby d8_5) rfl zk) ?_
      show OGo p e below s _ _ (TL.setTop (mkF m 7 #[.val (.ref a1), .val (.int (Int32.ofNat i)), .val (.ref a2), .val (.int (Int32.ofNat i)), .val (.int (Int32.ofNat n)), .val (.int (Int32.ofNat i)), s6] [(.int (Int32.ofNat n)), (.int (Int32.ofNat i))]))
      refine own_st (fun tt zk => XS.icmpNo XL.here hx rfl (hb hby d8_7) rfl (tlt (((own_lt (by omega) hn).mpr (by omega)))).2.1 zk) ?_
      show OGo p e below s _ _ (TL.setTop (mkF m 10 #[.val (.ref a1), .val (.int (Int32.ofNat i)), .val (.ref a2), .val (.int (Int32.ofNat i)), .val (.int (Int32.ofNat n)), .val (.int (Int32.ofNat i)), s6] []))
      refine own_st (fun tt zk => XS.aloadN XL.here hx rfl (hb hby d8_10) rfl rfl zk) ?_
      show OGo p e below s _ _ (TL.setTop (mkF m 11 #[.val (.ref a1), .val (.int (Int32.ofNat i)), .val (.ref a2), .val (.int (Int32.ofNat i)), .val (.int (Int32.ofNat n)), .val (.int (Int32.ofNat i)), s6] [(.ref a1)]))
      refine own_st (fun tt zk => XS.iloadN XL.here hx rfl (hb hby d8_11) rfl zk) ?_
      show OGo p e below s _ _ (TL.setTop (mkF m 12 #[.val (.ref a1), .val (.int (Int32.ofNat i)), .val (.ref a2), .val (.int (Int32.ofNat i)), .val (.int (Int32.ofNat n)), .val (.int (Int32.ofNat i)), s6] [(.int (Int32.ofNat i)), (.ref a1)]))
      obtain ⟨cl19, Ar19, Sz19, Hh19⟩ := id A_a1
      have hin19 := own_in (i := (Int32.ofNat i)) Sz19 (own_nat (by omega)).2.1 (by rw [(own_nat (by omega)).1]; omega)
      refine own_st (XL.caload hx (j := (Int32.ofNat i)) (v := (.int (cf i))) (by rw [eL]; exact Ar19.1) (State.isArrayOf_alike hZ.alike Ar19.2.1) Ar19.2.2 hin19 ((Hh19 _ (by rw [(own_nat (by omega)).1]; omega)).trans (congrArg some (by rw [(own_nat (by omega)).1]))) (g := (mkF m 12 #[.val (.ref a1), .val (.int (Int32.ofNat i)), .val (.ref a2), .val (.int (Int32.ofNat i)), .val (.int (Int32.ofNat n)), .val (.int (Int32.ofNat i)), s6] [(.int (Int32.ofNat i)), (.ref a1)])) rfl rfl (hb hby d8_12)) ?_
      show OGo p e below s _ _ (TL.setTop (mkF m 13 #[.val (.ref a1), .val (.int (Int32.ofNat i)), .val (.ref a2), .val (.int (Int32.ofNat i)), .val (.int (Int32.ofNat n)), .val (.int (Int32.ofNat i)), s6] [(.int (cf i))]))
      refine own_st (fun tt zk => XS.istore XL.here hx rfl (hb hby d8_13) rfl (l' := #[.val (.ref a1), .val (.int (Int32.ofNat i)), .val (.ref a2), .val (.int (Int32.ofNat i)), .val (.int (Int32.ofNat n)), .val (.int (Int32.ofNat i)), .val (.int (cf i))]) (own_st6 hs6) zk) ?_
      show OGo p e below s _ _ (TL.setTop (mkF m 15 #[.val (.ref a1), .val (.int (Int32.ofNat i)), .val (.ref a2), .val (.int (Int32.ofNat i)), .val (.int (Int32.ofNat n)), .val (.int (Int32.ofNat i)), .val (.int (cf i))] []))
      refine own_st (fun tt zk => XS.iload XL.here hx rfl (hb hby d8_15) rfl zk) ?_
      show OGo p e below s _ _ (TL.setTop (mkF m 17 #[.val (.ref a1), .val (.int (Int32.ofNat i)), .val (.ref a2), .val (.int (Int32.ofNat i)), .val (.int (Int32.ofNat n)), .val (.int (Int32.ofNat i)), .val (.int (cf i))] [(.int (cf i))]))
      refine own_st (fun tt zk => XS.sipush XL.here hx rfl (hb hby d8_17) zk) ?_
      show OGo p e below s _ _ (TL.setTop (mkF m 20 #[.val (.ref a1), .val (.int (Int32.ofNat i)), .val (.ref a2), .val (.int (Int32.ofNat i)), .val (.int (Int32.ofNat n)), .val (.int (Int32.ofNat i)), .val (.int (cf i))] [(.int (255 : Int32)), (.int (cf i))]))
      refine own_st (fun tt zk => XS.icmpNo XL.here hx rfl (hb hby d8_20) rfl (tlt (hck)).2.2.2 zk) ?_
      show OGo p e below s _ _ (TL.setTop (mkF m 23 #[.val (.ref a1), .val (.int (Int32.ofNat i)), .val (.ref a2), .val (.int (Int32.ofNat i)), .val (.int (Int32.ofNat n)), .val (.int (Int32.ofNat i)), .val (.int (cf i))] []))
      refine own_st (fun tt zk => XS.iload XL.here hx rfl (hb hby d8_23) rfl zk) ?_
      show OGo p e below s _ _ (TL.setTop (mkF m 25 #[.val (.ref a1), .val (.int (Int32.ofNat i)), .val (.ref a2), .val (.int (Int32.ofNat i)), .val (.int (Int32.ofNat n)), .val (.int (Int32.ofNat i)), .val (.int (cf i))] [(.int (Int32.ofNat i))]))
      have A_a2 : OAr Z hL a2 .byte n (own_lbs cf gf i) := A_a2
      exact own_retI XL hx hlk hret (hb hby d8_25) (by decide) (by decide) (⟨rfl, NL, (by rw [eL]; exact K0), (by rw [eL]; exact A_a2)⟩)
    | succ d ih =>
      intro i TL LL hL s6 hi hs6 XL eL NL Z0 K0 A_a1 A_a2
      show OGo p e below s _ _ (TL.setTop (mkF m 3 #[.val (.ref a1), .val (.int (Int32.ofNat i)), .val (.ref a2), .val (.int (Int32.ofNat i)), .val (.int (Int32.ofNat n)), .val (.int (Int32.ofNat i)), s6] []))
      refine own_st (fun tt zk => XS.iload XL.here hx rfl (hb hby d8_3) rfl zk) ?_
      show OGo p e below s _ _ (TL.setTop (mkF m 5 #[.val (.ref a1), .val (.int (Int32.ofNat i)), .val (.ref a2), .val (.int (Int32.ofNat i)), .val (.int (Int32.ofNat n)), .val (.int (Int32.ofNat i)), s6] [(.int (Int32.ofNat i))]))
      refine own_st (fun tt zk => XS.iload XL.here hx rfl (hb hby d8_5) rfl zk) ?_
      show OGo p e below s _ _ (TL.setTop (mkF m 7 #[.val (.ref a1), .val (.int (Int32.ofNat i)), .val (.ref a2), .val (.int (Int32.ofNat i)), .val (.int (Int32.ofNat n)), .val (.int (Int32.ofNat i)), s6] [(.int (Int32.ofNat n)), (.int (Int32.ofNat i))]))
      refine own_st (fun tt zk => XS.icmpNo XL.here hx rfl (hb hby d8_7) rfl (tlt (((own_lt (by omega) hn).mpr (by omega)))).2.1 zk) ?_
      show OGo p e below s _ _ (TL.setTop (mkF m 10 #[.val (.ref a1), .val (.int (Int32.ofNat i)), .val (.ref a2), .val (.int (Int32.ofNat i)), .val (.int (Int32.ofNat n)), .val (.int (Int32.ofNat i)), s6] []))
      refine own_st (fun tt zk => XS.aloadN XL.here hx rfl (hb hby d8_10) rfl rfl zk) ?_
      show OGo p e below s _ _ (TL.setTop (mkF m 11 #[.val (.ref a1), .val (.int (Int32.ofNat i)), .val (.ref a2), .val (.int (Int32.ofNat i)), .val (.int (Int32.ofNat n)), .val (.int (Int32.ofNat i)), s6] [(.ref a1)]))
      refine own_st (fun tt zk => XS.iloadN XL.here hx rfl (hb hby d8_11) rfl zk) ?_
      show OGo p e below s _ _ (TL.setTop (mkF m 12 #[.val (.ref a1), .val (.int (Int32.ofNat i)), .val (.ref a2), .val (.int (Int32.ofNat i)), .val (.int (Int32.ofNat n)), .val (.int (Int32.ofNat i)), s6] [(.int (Int32.ofNat i)), (.ref a1)]))
      obtain ⟨cl20, Ar20, Sz20, Hh20⟩ := id A_a1
      have hin20 := own_in (i := (Int32.ofNat i)) Sz20 (own_nat (by omega)).2.1 (by rw [(own_nat (by omega)).1]; omega)
      refine own_st (XL.caload hx (j := (Int32.ofNat i)) (v := (.int (cf i))) (by rw [eL]; exact Ar20.1) (State.isArrayOf_alike hZ.alike Ar20.2.1) Ar20.2.2 hin20 ((Hh20 _ (by rw [(own_nat (by omega)).1]; omega)).trans (congrArg some (by rw [(own_nat (by omega)).1]))) (g := (mkF m 12 #[.val (.ref a1), .val (.int (Int32.ofNat i)), .val (.ref a2), .val (.int (Int32.ofNat i)), .val (.int (Int32.ofNat n)), .val (.int (Int32.ofNat i)), s6] [(.int (Int32.ofNat i)), (.ref a1)])) rfl rfl (hb hby d8_12)) ?_
      show OGo p e below s _ _ (TL.setTop (mkF m 13 #[.val (.ref a1), .val (.int (Int32.ofNat i)), .val (.ref a2), .val (.int (Int32.ofNat i)), .val (.int (Int32.ofNat n)), .val (.int (Int32.ofNat i)), s6] [(.int (cf i))]))
      refine own_st (fun tt zk => XS.istore XL.here hx rfl (hb hby d8_13) rfl (l' := #[.val (.ref a1), .val (.int (Int32.ofNat i)), .val (.ref a2), .val (.int (Int32.ofNat i)), .val (.int (Int32.ofNat n)), .val (.int (Int32.ofNat i)), .val (.int (cf i))]) (own_st6 hs6) zk) ?_
      show OGo p e below s _ _ (TL.setTop (mkF m 15 #[.val (.ref a1), .val (.int (Int32.ofNat i)), .val (.ref a2), .val (.int (Int32.ofNat i)), .val (.int (Int32.ofNat n)), .val (.int (Int32.ofNat i)), .val (.int (cf i))] []))
      refine own_st (fun tt zk => XS.iload XL.here hx rfl (hb hby d8_15) rfl zk) ?_
      show OGo p e below s _ _ (TL.setTop (mkF m 17 #[.val (.ref a1), .val (.int (Int32.ofNat i)), .val (.ref a2), .val (.int (Int32.ofNat i)), .val (.int (Int32.ofNat n)), .val (.int (Int32.ofNat i)), .val (.int (cf i))] [(.int (cf i))]))
      refine own_st (fun tt zk => XS.sipush XL.here hx rfl (hb hby d8_17) zk) ?_
      show OGo p e below s _ _ (TL.setTop (mkF m 20 #[.val (.ref a1), .val (.int (Int32.ofNat i)), .val (.ref a2), .val (.int (Int32.ofNat i)), .val (.int (Int32.ofNat n)), .val (.int (Int32.ofNat i)), .val (.int (cf i))] [(.int (255 : Int32)), (.int (cf i))]))
      refine own_st (fun tt zk => XS.icmpYes XL.here hx rfl (pc0 := 20) (pc' := 26) rfl (hb hby d8_20) rfl (flt ((hc i (by omega)))).2.2.2 (by decide) (by decide) zk) ?_
      show OGo p e below s _ _ (TL.setTop (mkF m 26 #[.val (.ref a1), .val (.int (Int32.ofNat i)), .val (.ref a2), .val (.int (Int32.ofNat i)), .val (.int (Int32.ofNat n)), .val (.int (Int32.ofNat i)), .val (.int (cf i))] []))
      refine own_st (fun tt zk => XS.aloadN XL.here hx rfl (hb hby d8_26) rfl rfl zk) ?_
      show OGo p e below s _ _ (TL.setTop (mkF m 27 #[.val (.ref a1), .val (.int (Int32.ofNat i)), .val (.ref a2), .val (.int (Int32.ofNat i)), .val (.int (Int32.ofNat n)), .val (.int (Int32.ofNat i)), .val (.int (cf i))] [(.ref a2)]))
      refine own_st (fun tt zk => XS.iloadN XL.here hx rfl (hb hby d8_27) rfl zk) ?_
      show OGo p e below s _ _ (TL.setTop (mkF m 28 #[.val (.ref a1), .val (.int (Int32.ofNat i)), .val (.ref a2), .val (.int (Int32.ofNat i)), .val (.int (Int32.ofNat n)), .val (.int (Int32.ofNat i)), .val (.int (cf i))] [(.int (Int32.ofNat i)), (.ref a2)]))
      refine own_st (fun tt zk => XS.iload XL.here hx rfl (hb hby d8_28) rfl zk) ?_
      show OGo p e below s _ _ (TL.setTop (mkF m 30 #[.val (.ref a1), .val (.int (Int32.ofNat i)), .val (.ref a2), .val (.int (Int32.ofNat i)), .val (.int (Int32.ofNat n)), .val (.int (Int32.ofNat i)), .val (.int (cf i))] [(.int (cf i)), (.int (Int32.ofNat i)), (.ref a2)]))
      refine own_st (fun tt zk => XS.i2b XL.here hx rfl (hb hby d8_30) rfl zk) ?_
      show OGo p e below s _ _ (TL.setTop (mkF m 31 #[.val (.ref a1), .val (.int (Int32.ofNat i)), .val (.ref a2), .val (.int (Int32.ofNat i)), .val (.int (Int32.ofNat n)), .val (.int (Int32.ofNat i)), .val (.int (cf i))] [(.int (cf i).toInt8.toInt32), (.int (Int32.ofNat i)), (.ref a2)]))
      obtain ⟨cl21, Ar21, Sz21, Hh21⟩ := id A_a2
      obtain ⟨T21, hp21, X21, e21, Ww21, st21⟩ := stB XL hx hZ eL Ar21 (j := (Int32.ofNat i)) (own_in Sz21 (own_nat (by omega)).2.1 (by rw [(own_nat (by omega)).1]; omega)) (g := (mkF m 31 #[.val (.ref a1), .val (.int (Int32.ofNat i)), .val (.ref a2), .val (.int (Int32.ofNat i)), .val (.int (Int32.ofNat n)), .val (.int (Int32.ofNat i)), .val (.int (cf i))] [(.int (cf i).toInt8.toInt32), (.int (Int32.ofNat i)), (.ref a2)])) rfl rfl (hb hby d8_31)
      have Nf21 := Fr.snoc X21 NL old_a2
      have Z0 := Nat.le_trans Z0 (Keep.of_wr Ww21).1
      have K0 := K0.wr Ww21 (Or.inl (List.mem_of_getElem? (i := 0) rfl))
      have A_a1 := A_a1.other Ww21 ne_a1_a2
      have A_a2 := OAr.set Ar21 Sz21 Hh21 Ww21
      refine own_st st21 ?_
      show OGo p e below s _ _ (T21.setTop (mkF m 32 #[.val (.ref a1), .val (.int (Int32.ofNat i)), .val (.ref a2), .val (.int (Int32.ofNat i)), .val (.int (Int32.ofNat n)), .val (.int (Int32.ofNat i)), .val (.int (cf i))] []))
      have A_a2 := A_a2.cong (own_lbsS cf gf n i (by omega))
      refine own_st (fun tt zk => XS.iinc X21.here hx rfl (hb hby d8_32) rfl (l' := #[.val (.ref a1), .val (.int ((Int32.ofNat i) + (1 : Int32))), .val (.ref a2), .val (.int (Int32.ofNat i)), .val (.int (Int32.ofNat n)), .val (.int (Int32.ofNat i)), .val (.int (cf i))]) rfl zk) ?_
      show OGo p e below s _ _ (T21.setTop (mkF m 35 #[.val (.ref a1), .val (.int ((Int32.ofNat i) + (1 : Int32))), .val (.ref a2), .val (.int (Int32.ofNat i)), .val (.int (Int32.ofNat n)), .val (.int (Int32.ofNat i)), .val (.int (cf i))] []))
      refine own_st (fun tt zk => XS.iinc X21.here hx rfl (hb hby d8_35) rfl (l' := #[.val (.ref a1), .val (.int ((Int32.ofNat i) + (1 : Int32))), .val (.ref a2), .val (.int ((Int32.ofNat i) + (1 : Int32))), .val (.int (Int32.ofNat n)), .val (.int (Int32.ofNat i)), .val (.int (cf i))]) rfl zk) ?_
      show OGo p e below s _ _ (T21.setTop (mkF m 38 #[.val (.ref a1), .val (.int ((Int32.ofNat i) + (1 : Int32))), .val (.ref a2), .val (.int ((Int32.ofNat i) + (1 : Int32))), .val (.int (Int32.ofNat n)), .val (.int (Int32.ofNat i)), .val (.int (cf i))] []))
      refine own_st (fun tt zk => XS.iinc X21.here hx rfl (hb hby d8_38) rfl (l' := #[.val (.ref a1), .val (.int ((Int32.ofNat i) + (1 : Int32))), .val (.ref a2), .val (.int ((Int32.ofNat i) + (1 : Int32))), .val (.int (Int32.ofNat n)), .val (.int ((Int32.ofNat i) + (1 : Int32))), .val (.int (cf i))]) rfl zk) ?_
      show OGo p e below s _ _ (T21.setTop (mkF m 41 #[.val (.ref a1), .val (.int ((Int32.ofNat i) + (1 : Int32))), .val (.ref a2), .val (.int ((Int32.ofNat i) + (1 : Int32))), .val (.int (Int32.ofNat n)), .val (.int ((Int32.ofNat i) + (1 : Int32))), .val (.int (cf i))] []))
      refine own_st (fun tt zk => XS.goto X21.here hx rfl (pc0 := 41) (pc' := 3) rfl (hb hby d8_41) (by decide) (by decide) zk) ?_
      show OGo p e below s _ _ (T21.setTop (mkF m 3 #[.val (.ref a1), .val (.int ((Int32.ofNat i) + (1 : Int32))), .val (.ref a2), .val (.int ((Int32.ofNat i) + (1 : Int32))), .val (.int (Int32.ofNat n)), .val (.int ((Int32.ofNat i) + (1 : Int32))), .val (.int (cf i))] []))
      rw [own_up]
      exact ih (i + 1) T21 _ hp21 _ (by omega) (One.val rfl) X21 e21 Nf21 Z0 K0 A_a1 A_a2
  exact loop k 0 _ _ _ _ (by omega) One.u X0 e0 N0 Z0 K0 A_a1 A_a2
theorem d18_0 : decode jdk_52_method_3_code 0 = .ok (.iload_n 0, 1) := by decide +kernel
theorem d18_1 : decode jdk_52_method_3_code 1 = .ok (.ifCond .ge 11, 3) := by decide +kernel
theorem d18_12 : decode jdk_52_method_3_code 12 = .ok (.iload_n 0, 1) := by decide +kernel
theorem d18_13 : decode jdk_52_method_3_code 13 = .ok (.ldc 20, 2) := by decide +kernel
theorem d18_15 : decode jdk_52_method_3_code 15 = .ok (.if_icmp .lt 40, 3) := by decide +kernel
theorem d18_55 : decode jdk_52_method_3_code 55 = .ok (.iload_n 0, 1) := by decide +kernel
theorem d18_56 : decode jdk_52_method_3_code 56 = .ok (.iconst 1, 1) := by decide +kernel
theorem d18_57 : decode jdk_52_method_3_code 57 = .ok (.ishl, 1) := by decide +kernel
theorem d18_58 : decode jdk_52_method_3_code 58 = .ok (.ireturn, 1) := by decide +kernel
theorem ef_18_I (m : MethodId) (x0 : Int32) : entryFrame m #[(.int x0)] 1 = mkF m 0 #[.val (.int x0)] [] := by first | (simp [entryFrame, mkF, argsToLocals, Value.category]; done) | rfl
set_option maxRecDepth 65536 in
set_option maxHeartbeats 40000000 in
theorem su2 (l : Launch) (Z : State) (a0 : Array Value) (hw : ∀ d ∈ tables_1, d.before a0 Z = true) (n : Nat) (h0 : Heap) (hn : n ≤ 3) (hlt : Int32.ofNat n < (1073741823 : Int32)) :
    OPure l Z (⟨"java/lang/StringUTF16", "newBytesLength", "(I)I"⟩ : MethodName) jdk_52_method_3_code 1 (some .int) [] ({ frames := 0, cells := 0, slots := 0, locals := 0 } : Room) #[(.int (Int32.ofNat n))] h0 (some (.int (Int32.ofNat (2 * n)))) := by
  refine own_body (plainFor_of_name pn_java_lang_StringUTF16) (fun m => ef_18_I m (Int32.ofNat n)) ?_
  intro p e s m below meth c T0 hx hby hml hown hnm hret hlk hZ X0 e0
  have hown : s.vm.findClass "java/lang/StringUTF16" = some m.cls := hown
  have hml : c.maxLocals = 1 := hml
  show OGo p e below s _ _ (T0.setTop (mkF m 0 #[.val (.int (Int32.ofNat n))] []))
  refine own_st (fun tt zk => XS.iloadN X0.here hx rfl (hb hby d18_0) rfl zk) ?_
  show OGo p e below s _ _ (T0.setTop (mkF m 1 #[.val (.int (Int32.ofNat n))] [(.int (Int32.ofNat n))]))
  refine own_st (fun tt zk => XS.ifYes X0.here hx rfl (pc0 := 1) (pc' := 12) rfl (hb hby d18_1) rfl ((if0 _ _).trans (flt ((own_nat (by omega)).2.1)).2.1) (by decide) (by decide) zk) ?_
  show OGo p e below s _ _ (T0.setTop (mkF m 12 #[.val (.int (Int32.ofNat n))] []))
  refine own_st (fun tt zk => XS.iloadN X0.here hx rfl (hb hby d18_12) rfl zk) ?_
  show OGo p e below s _ _ (T0.setTop (mkF m 13 #[.val (.int (Int32.ofNat n))] [(.int (Int32.ofNat n))]))
  refine own_st (X0.ldcInt hx hown (mvT hZ (hw _ (List.mem_of_getElem? (i := 82) rfl))) (g := (mkF m 13 #[.val (.int (Int32.ofNat n))] [(.int (Int32.ofNat n))])) rfl (hb hby d18_13)) ?_
  show OGo p e below s _ _ (T0.setTop (mkF m 15 #[.val (.int (Int32.ofNat n))] [(.int (1073741823 : Int32)), (.int (Int32.ofNat n))]))
  refine own_st (fun tt zk => XS.icmpYes X0.here hx rfl (pc0 := 15) (pc' := 55) rfl (hb hby d18_15) rfl (tlt (hlt)).1 (by decide) (by decide) zk) ?_
  show OGo p e below s _ _ (T0.setTop (mkF m 55 #[.val (.int (Int32.ofNat n))] []))
  refine own_st (fun tt zk => XS.iloadN X0.here hx rfl (hb hby d18_55) rfl zk) ?_
  show OGo p e below s _ _ (T0.setTop (mkF m 56 #[.val (.int (Int32.ofNat n))] [(.int (Int32.ofNat n))]))
  refine own_st (fun tt zk => XS.iconst X0.here hx rfl (hb hby d18_56) zk) ?_
  show OGo p e below s _ _ (T0.setTop (mkF m 57 #[.val (.int (Int32.ofNat n))] [(.int (1 : Int32)), (.int (Int32.ofNat n))]))
  refine own_st (fun tt zk => XS.ishl X0.here hx rfl (hb hby d18_57) rfl zk) ?_
  show OGo p e below s _ _ (T0.setTop (mkF m 58 #[.val (.int (Int32.ofNat n))] [(.int ((Int32.ofNat n) <<< ((1 : Int32) &&& 31)))]))
  rw [own_shl1 n (by omega)]
  exact own_retI X0 hx hlk hret (hb hby d18_58) (by decide) (by decide) (⟨rfl, rfl, e0⟩)
theorem own_lt_lit (n : Nat) (hn : n ≤ 3) : Int32.ofNat n < (1073741823 : Int32) := by
  rw [Int32.lt_iff_toInt_lt, (own_nat (by omega)).2.2, show (1073741823 : Int32).toInt = 1073741823 from by decide]; omega
theorem d17_0 : decode jdk_52_method_2_code 0 = .ok (.iload_n 0, 1) := by decide +kernel
theorem d17_1 : decode jdk_52_method_2_code 1 = .ok (.invokestatic 11, 3) := by decide +kernel
theorem pd_5 : parseMethodDescriptor "(I)I" = some ⟨[.int], some .int⟩ := by decide +kernel
theorem d17_4 : decode jdk_52_method_2_code 4 = .ok (.newarray .byte, 2) := by decide +kernel
theorem d17_6 : decode jdk_52_method_2_code 6 = .ok (.areturn, 1) := by decide +kernel
theorem ef_17_I (m : MethodId) (x0 : Int32) : entryFrame m #[(.int x0)] 1 = mkF m 0 #[.val (.int x0)] [] := by first | (simp [entryFrame, mkF, argsToLocals, Value.category]; done) | rfl
set_option maxRecDepth 65536 in
set_option maxHeartbeats 40000000 in
theorem su3 (l : Launch) (Z : State) (a0 : Array Value) (hw : ∀ d ∈ tables_1, d.before a0 Z = true) (n : Nat) (h0 : Heap) (n0 : Nat) (Z0 : n0 ≤ h0.size) (hn : n ≤ 3) :
    OMet l Z (⟨"java/lang/StringUTF16", "newBytesFor", "(I)[B"⟩ : MethodName) jdk_52_method_2_code 1 (some (.array .byte)) [] ({ frames := 1, cells := 1, slots := 6, locals := 12 } : Room) #[(.int (Int32.ofNat n))] h0 (fun v h' L => ∃ t1 : Addr, v = some (.ref t1) ∧ Fr n0 L ∧ Keep h0 h' [] ∧ h0.size ≤ t1 ∧ OAr Z h' t1 .byte (2 * n) (fun _ => defaultValue .byte)) := by
  refine own_body (plainFor_of_name pn_java_lang_StringUTF16) (fun m => ef_17_I m (Int32.ofNat n)) ?_
  intro p e s m below meth c T0 hx hby hml hown hnm hret hlk hZ X0 e0
  have hown : s.vm.findClass "java/lang/StringUTF16" = some m.cls := hown
  have hml : c.maxLocals = 1 := hml
  have N0 := Fr.nil n0
  have K0 := Keep.refl h0 []
  show OGo p e below s _ _ (T0.setTop (mkF m 0 #[.val (.int (Int32.ofNat n))] []))
  refine own_st (fun tt zk => XS.iloadN X0.here hx rfl (hb hby d17_0) rfl zk) ?_
  show OGo p e below s _ _ (T0.setTop (mkF m 1 #[.val (.int (Int32.ofNat n))] [(.int (Int32.ofNat n))]))
  obtain ⟨T22, X22, e22, st22⟩ := own_callSP X0 hx hZ (y := (⟨"java/lang/StringUTF16", "newBytesLength", "(I)I"⟩ : MethodName)) (W := 0) hown (hw _ (List.mem_of_getElem? (i := 79) rfl)) (hw _ (List.mem_of_getElem? (i := 80) rfl)) (hw _ (List.mem_of_getElem? (i := 39) rfl)) (hw _ (List.mem_of_getElem? (i := 81) rfl)) (by decide) (su2 l Z a0 hw n h0 hn (own_lt_lit n hn)) (by decide) (by decide) (g := (mkF m 1 #[.val (.int (Int32.ofNat n))] [(.int (Int32.ofNat n))])) rfl (by rw [hml]; rfl) (argsL := [(.int (Int32.ofNat n))]) (rest := []) (lenOf pd_5 rfl) rfl (by show 2 * 0 + _ ≤ _; exact Nat.le_of_eq rfl) (hb hby d17_1) rfl e0 (by decide) (by decide)
  refine own_st st22 ?_
  show OGo p e below s _ _ (T22.setTop (mkF m 4 #[.val (.int (Int32.ofNat n))] [(.int (Int32.ofNat (2 * n)))]))
  obtain ⟨T23, hp23, kk23, X23, e23, Ex23, Aa23, st23⟩ := newP X22 hx hZ (hw _ (List.mem_of_getElem? (i := 15) rfl)) e22 (g := (mkF m 4 #[.val (.int (Int32.ofNat n))] [(.int (Int32.ofNat (2 * n)))])) rfl (hb hby d17_4) rfl (own_nat (i := 2 * n) (by omega)).2.1 (cap := 6) (by rw [(own_nat (i := 2 * n) (by omega)).1]; omega) (by decide) (by decide) (by decide)
  obtain ⟨t1, gs23⟩ : ∃ z, z = h0.size := ⟨_, rfl⟩
  rw [← gs23] at Aa23 st23
  have old_t1 : n0 ≤ t1 := Nat.le_trans Z0 (Nat.le_of_eq gs23.symm)
  have fr_t1 : h0.size ≤ t1 := Nat.le_trans K0.1 (Nat.le_of_eq gs23.symm)
  have K0 := K0.ext Ex23
  have Z0 := Nat.le_trans Z0 Ex23.1
  have A_t1 := OAr.new Aa23
  refine own_st st23 ?_
  show OGo p e below s _ _ (T23.setTop (mkF m 6 #[.val (.int (Int32.ofNat n))] [(.ref t1)]))
  rw [(own_nat (i := 2 * n) (by omega)).1] at A_t1
  exact own_retA X23 hx hlk hret rfl rfl (hb hby d17_6) (by decide) (by decide) (⟨t1, rfl, N0, (by rw [e23]; exact K0), fr_t1, (by rw [e23]; exact A_t1)⟩)
theorem d19_0 : decode jdk_52_method_4_code 0 = .ok (.getstatic 44, 3) := by decide +kernel
theorem d19_3 : decode jdk_52_method_4_code 3 = .ok (.ifCond .ne 25, 3) := by decide +kernel
theorem d19_28 : decode jdk_52_method_4_code 28 = .ok (.iload_n 1, 1) := by decide +kernel
theorem d19_29 : decode jdk_52_method_4_code 29 = .ok (.iconst 1, 1) := by decide +kernel
theorem d19_30 : decode jdk_52_method_4_code 30 = .ok (.ishl, 1) := by decide +kernel
theorem d19_31 : decode jdk_52_method_4_code 31 = .ok (.istore_n 1, 1) := by decide +kernel
theorem d19_32 : decode jdk_52_method_4_code 32 = .ok (.aload_n 0, 1) := by decide +kernel
theorem d19_33 : decode jdk_52_method_4_code 33 = .ok (.iload_n 1, 1) := by decide +kernel
theorem d19_34 : decode jdk_52_method_4_code 34 = .ok (.iinc 1 1, 3) := by decide +kernel
theorem d19_37 : decode jdk_52_method_4_code 37 = .ok (.iload_n 2, 1) := by decide +kernel
theorem d19_38 : decode jdk_52_method_4_code 38 = .ok (.getstatic 59, 3) := by decide +kernel
theorem d19_41 : decode jdk_52_method_4_code 41 = .ok (.ishr, 1) := by decide +kernel
theorem d19_42 : decode jdk_52_method_4_code 42 = .ok (.i2b, 1) := by decide +kernel
theorem d19_43 : decode jdk_52_method_4_code 43 = .ok (.bastore, 1) := by decide +kernel
theorem d19_44 : decode jdk_52_method_4_code 44 = .ok (.aload_n 0, 1) := by decide +kernel
theorem d19_45 : decode jdk_52_method_4_code 45 = .ok (.iload_n 1, 1) := by decide +kernel
theorem d19_46 : decode jdk_52_method_4_code 46 = .ok (.iload_n 2, 1) := by decide +kernel
theorem d19_47 : decode jdk_52_method_4_code 47 = .ok (.getstatic 63, 3) := by decide +kernel
theorem d19_50 : decode jdk_52_method_4_code 50 = .ok (.ishr, 1) := by decide +kernel
theorem d19_51 : decode jdk_52_method_4_code 51 = .ok (.i2b, 1) := by decide +kernel
theorem d19_52 : decode jdk_52_method_4_code 52 = .ok (.bastore, 1) := by decide +kernel
theorem d19_53 : decode jdk_52_method_4_code 53 = .ok (.return_, 1) := by decide +kernel
theorem ef_19_RII (m : MethodId) (x0 : Addr) (x1 : Int32) (x2 : Int32) : entryFrame m #[(.ref x0), (.int x1), (.int x2)] 3 = mkF m 0 #[.val (.ref x0), .val (.int x1), .val (.int x2)] [] := by first | (simp [entryFrame, mkF, argsToLocals, Value.category]; done) | rfl
set_option maxRecDepth 65536 in
set_option maxHeartbeats 40000000 in
theorem su4 (l : Launch) (Z : State) (a0 : Array Value) (hw : ∀ d ∈ tables_1, d.before a0 Z = true) (a1 : Addr) (x : Int32) (i : Nat) (m' : Nat) (gf : Nat → Value) (h0 : Heap) (n0 : Nat) (Z0 : n0 ≤ h0.size) (old_a1 : n0 ≤ a1) (A_a1 : OAr Z h0 a1 .byte m' gf) (S__assertionsDisabled : Sta Z h0 "java/lang/StringUTF16" "$assertionsDisabled" "Z" (.int (1 : Int32))) (S_HI_BYTE_SHIFT : Sta Z h0 "java/lang/StringUTF16" "HI_BYTE_SHIFT" "I" (.int (0 : Int32))) (S_LO_BYTE_SHIFT : Sta Z h0 "java/lang/StringUTF16" "LO_BYTE_SHIFT" "I" (.int (8 : Int32))) (hi : 2 * i + 2 ≤ m') (hm : m' < 2 ^ 20) :
    OMet l Z (⟨"java/lang/StringUTF16", "putChar", "([BII)V"⟩ : MethodName) jdk_52_method_4_code 3 none [] ({ frames := 0, cells := 0, slots := 0, locals := 0 } : Room) #[(.ref a1), (.int (Int32.ofNat i)), (.int x)] h0 (fun v h' L => v = none ∧ Fr n0 L ∧ Keep h0 h' [a1] ∧ OAr Z h' a1 .byte m' (fun j => if j = 2 * i + 1 then Value.int (own_u8 x 1) else if j = 2 * i then Value.int (own_u8 x 0) else gf j)) := by
  refine own_body (plainFor_of_name pn_java_lang_StringUTF16) (fun m => ef_19_RII m a1 (Int32.ofNat i) x) ?_
  intro p e s m below meth c T0 hx hby hml hown hnm hret hlk hZ X0 e0
  have hown : s.vm.findClass "java/lang/StringUTF16" = some m.cls := hown
  have hml : c.maxLocals = 3 := hml
  have N0 := Fr.nil n0
  have K0 := Keep.refl h0 [a1]
  show OGo p e below s _ _ (T0.setTop (mkF m 0 #[.val (.ref a1), .val (.int (Int32.ofNat i)), .val (.int x)] []))
  obtain ⟨T24, X24, e24, st24⟩ := getS2 X0 hx hZ hown (host := "") (Or.inl (hw _ (List.mem_of_getElem? (i := 86) rfl))) Via.refl e0 S__assertionsDisabled (g := (mkF m 0 #[.val (.ref a1), .val (.int (Int32.ofNat i)), .val (.int x)] [])) rfl (hb hby d19_0)
  refine own_st st24 ?_
  show OGo p e below s _ _ (T24.setTop (mkF m 3 #[.val (.ref a1), .val (.int (Int32.ofNat i)), .val (.int x)] [(.int (1 : Int32))]))
  refine own_st (fun tt zk => XS.ifYes X24.here hx rfl (pc0 := 3) (pc' := 28) rfl (hb hby d19_3) rfl ((if0 _ _).trans (feq ((by decide : ¬ (1 : Int32) = (0 : Int32)))).2) (by decide) (by decide) zk) ?_
  show OGo p e below s _ _ (T24.setTop (mkF m 28 #[.val (.ref a1), .val (.int (Int32.ofNat i)), .val (.int x)] []))
  refine own_st (fun tt zk => XS.iloadN X24.here hx rfl (hb hby d19_28) rfl zk) ?_
  show OGo p e below s _ _ (T24.setTop (mkF m 29 #[.val (.ref a1), .val (.int (Int32.ofNat i)), .val (.int x)] [(.int (Int32.ofNat i))]))
  refine own_st (fun tt zk => XS.iconst X24.here hx rfl (hb hby d19_29) zk) ?_
  show OGo p e below s _ _ (T24.setTop (mkF m 30 #[.val (.ref a1), .val (.int (Int32.ofNat i)), .val (.int x)] [(.int (1 : Int32)), (.int (Int32.ofNat i))]))
  refine own_st (fun tt zk => XS.ishl X24.here hx rfl (hb hby d19_30) rfl zk) ?_
  show OGo p e below s _ _ (T24.setTop (mkF m 31 #[.val (.ref a1), .val (.int (Int32.ofNat i)), .val (.int x)] [(.int ((Int32.ofNat i) <<< ((1 : Int32) &&& 31)))]))
  rw [own_shl1 i (by omega)]
  refine own_st (fun tt zk => XS.istoreN X24.here hx rfl (hb hby d19_31) rfl (l' := #[.val (.ref a1), .val (.int (Int32.ofNat (2 * i))), .val (.int x)]) rfl zk) ?_
  show OGo p e below s _ _ (T24.setTop (mkF m 32 #[.val (.ref a1), .val (.int (Int32.ofNat (2 * i))), .val (.int x)] []))
  refine own_st (fun tt zk => XS.aloadN X24.here hx rfl (hb hby d19_32) rfl rfl zk) ?_
  show OGo p e below s _ _ (T24.setTop (mkF m 33 #[.val (.ref a1), .val (.int (Int32.ofNat (2 * i))), .val (.int x)] [(.ref a1)]))
  refine own_st (fun tt zk => XS.iloadN X24.here hx rfl (hb hby d19_33) rfl zk) ?_
  show OGo p e below s _ _ (T24.setTop (mkF m 34 #[.val (.ref a1), .val (.int (Int32.ofNat (2 * i))), .val (.int x)] [(.int (Int32.ofNat (2 * i))), (.ref a1)]))
  refine own_st (fun tt zk => XS.iinc X24.here hx rfl (hb hby d19_34) rfl (l' := #[.val (.ref a1), .val (.int ((Int32.ofNat (2 * i)) + (1 : Int32))), .val (.int x)]) rfl zk) ?_
  show OGo p e below s _ _ (T24.setTop (mkF m 37 #[.val (.ref a1), .val (.int ((Int32.ofNat (2 * i)) + (1 : Int32))), .val (.int x)] [(.int (Int32.ofNat (2 * i))), (.ref a1)]))
  rw [show Int32.ofNat (2 * i) + (1 : Int32) = Int32.ofNat (2 * i + 1) from own_up (2 * i)]
  show OGo p e below s _ _ (T24.setTop (mkF m 37 #[.val (.ref a1), .val (.int (Int32.ofNat (2 * i + 1))), .val (.int x)] [(.int (Int32.ofNat (2 * i))), (.ref a1)]))
  refine own_st (fun tt zk => XS.iloadN X24.here hx rfl (hb hby d19_37) rfl zk) ?_
  show OGo p e below s _ _ (T24.setTop (mkF m 38 #[.val (.ref a1), .val (.int (Int32.ofNat (2 * i + 1))), .val (.int x)] [(.int x), (.int (Int32.ofNat (2 * i))), (.ref a1)]))
  obtain ⟨T25, X25, e25, st25⟩ := getS2 X24 hx hZ hown (host := "") (Or.inl (hw _ (List.mem_of_getElem? (i := 87) rfl))) Via.refl e24 S_HI_BYTE_SHIFT (g := (mkF m 38 #[.val (.ref a1), .val (.int (Int32.ofNat (2 * i + 1))), .val (.int x)] [(.int x), (.int (Int32.ofNat (2 * i))), (.ref a1)])) rfl (hb hby d19_38)
  refine own_st st25 ?_
  show OGo p e below s _ _ (T25.setTop (mkF m 41 #[.val (.ref a1), .val (.int (Int32.ofNat (2 * i + 1))), .val (.int x)] [(.int (0 : Int32)), (.int x), (.int (Int32.ofNat (2 * i))), (.ref a1)]))
  refine own_st (fun tt zk => XS.ishr X25.here hx rfl (hb hby d19_41) rfl zk) ?_
  show OGo p e below s _ _ (T25.setTop (mkF m 42 #[.val (.ref a1), .val (.int (Int32.ofNat (2 * i + 1))), .val (.int x)] [(.int (x >>> ((0 : Int32) &&& 31))), (.int (Int32.ofNat (2 * i))), (.ref a1)]))
  rw [own_shr0]
  refine own_st (fun tt zk => XS.i2b X25.here hx rfl (hb hby d19_42) rfl zk) ?_
  show OGo p e below s _ _ (T25.setTop (mkF m 43 #[.val (.ref a1), .val (.int (Int32.ofNat (2 * i + 1))), .val (.int x)] [(.int x.toInt8.toInt32), (.int (Int32.ofNat (2 * i))), (.ref a1)]))
  obtain ⟨cl26, Ar26, Sz26, Hh26⟩ := id A_a1
  obtain ⟨T26, hp26, X26, e26, Ww26, st26⟩ := stB X25 hx hZ e25 Ar26 (j := (Int32.ofNat (2 * i))) (own_in Sz26 (own_nat (by omega)).2.1 (by rw [(own_nat (by omega)).1]; omega)) (g := (mkF m 43 #[.val (.ref a1), .val (.int (Int32.ofNat (2 * i + 1))), .val (.int x)] [(.int x.toInt8.toInt32), (.int (Int32.ofNat (2 * i))), (.ref a1)])) rfl rfl (hb hby d19_43)
  have Nf26 := Fr.snoc X26 N0 old_a1
  have Z0 := Nat.le_trans Z0 (Keep.of_wr Ww26).1
  have K0 := K0.wr Ww26 (Or.inl (List.mem_of_getElem? (i := 0) rfl))
  have S__assertionsDisabled := S__assertionsDisabled.wr Ww26
  have S_HI_BYTE_SHIFT := S_HI_BYTE_SHIFT.wr Ww26
  have S_LO_BYTE_SHIFT := S_LO_BYTE_SHIFT.wr Ww26
  have A_a1 := OAr.set Ar26 Sz26 Hh26 Ww26
  refine own_st st26 ?_
  show OGo p e below s _ _ (T26.setTop (mkF m 44 #[.val (.ref a1), .val (.int (Int32.ofNat (2 * i + 1))), .val (.int x)] []))
  rw [show (Int32.ofNat (2 * i)).toNatClampNeg = 2 * i from (own_nat (by omega)).1] at A_a1
  refine own_st (fun tt zk => XS.aloadN X26.here hx rfl (hb hby d19_44) rfl rfl zk) ?_
  show OGo p e below s _ _ (T26.setTop (mkF m 45 #[.val (.ref a1), .val (.int (Int32.ofNat (2 * i + 1))), .val (.int x)] [(.ref a1)]))
  refine own_st (fun tt zk => XS.iloadN X26.here hx rfl (hb hby d19_45) rfl zk) ?_
  show OGo p e below s _ _ (T26.setTop (mkF m 46 #[.val (.ref a1), .val (.int (Int32.ofNat (2 * i + 1))), .val (.int x)] [(.int (Int32.ofNat (2 * i + 1))), (.ref a1)]))
  refine own_st (fun tt zk => XS.iloadN X26.here hx rfl (hb hby d19_46) rfl zk) ?_
  show OGo p e below s _ _ (T26.setTop (mkF m 47 #[.val (.ref a1), .val (.int (Int32.ofNat (2 * i + 1))), .val (.int x)] [(.int x), (.int (Int32.ofNat (2 * i + 1))), (.ref a1)]))
  obtain ⟨T27, X27, e27, st27⟩ := getS2 X26 hx hZ hown (host := "") (Or.inl (hw _ (List.mem_of_getElem? (i := 88) rfl))) Via.refl e26 S_LO_BYTE_SHIFT (g := (mkF m 47 #[.val (.ref a1), .val (.int (Int32.ofNat (2 * i + 1))), .val (.int x)] [(.int x), (.int (Int32.ofNat (2 * i + 1))), (.ref a1)])) rfl (hb hby d19_47)
  refine own_st st27 ?_
  show OGo p e below s _ _ (T27.setTop (mkF m 50 #[.val (.ref a1), .val (.int (Int32.ofNat (2 * i + 1))), .val (.int x)] [(.int (8 : Int32)), (.int x), (.int (Int32.ofNat (2 * i + 1))), (.ref a1)]))
  refine own_st (fun tt zk => XS.ishr X27.here hx rfl (hb hby d19_50) rfl zk) ?_
  show OGo p e below s _ _ (T27.setTop (mkF m 51 #[.val (.ref a1), .val (.int (Int32.ofNat (2 * i + 1))), .val (.int x)] [(.int (x >>> ((8 : Int32) &&& 31))), (.int (Int32.ofNat (2 * i + 1))), (.ref a1)]))
  refine own_st (fun tt zk => XS.i2b X27.here hx rfl (hb hby d19_51) rfl zk) ?_
  show OGo p e below s _ _ (T27.setTop (mkF m 52 #[.val (.ref a1), .val (.int (Int32.ofNat (2 * i + 1))), .val (.int x)] [(.int (x >>> ((8 : Int32) &&& 31)).toInt8.toInt32), (.int (Int32.ofNat (2 * i + 1))), (.ref a1)]))
  obtain ⟨cl28, Ar28, Sz28, Hh28⟩ := id A_a1
  obtain ⟨T28, hp28, X28, e28, Ww28, st28⟩ := stB X27 hx hZ e27 Ar28 (j := (Int32.ofNat (2 * i + 1))) (own_in Sz28 (own_nat (by omega)).2.1 (by rw [(own_nat (by omega)).1]; omega)) (g := (mkF m 52 #[.val (.ref a1), .val (.int (Int32.ofNat (2 * i + 1))), .val (.int x)] [(.int (x >>> ((8 : Int32) &&& 31)).toInt8.toInt32), (.int (Int32.ofNat (2 * i + 1))), (.ref a1)])) rfl rfl (hb hby d19_52)
  have Nf28 := Fr.snoc X28 Nf26 old_a1
  have Z0 := Nat.le_trans Z0 (Keep.of_wr Ww28).1
  have K0 := K0.wr Ww28 (Or.inl (List.mem_of_getElem? (i := 0) rfl))
  have S__assertionsDisabled := S__assertionsDisabled.wr Ww28
  have S_HI_BYTE_SHIFT := S_HI_BYTE_SHIFT.wr Ww28
  have S_LO_BYTE_SHIFT := S_LO_BYTE_SHIFT.wr Ww28
  have A_a1 := OAr.set Ar28 Sz28 Hh28 Ww28
  refine own_st st28 ?_
  show OGo p e below s _ _ (T28.setTop (mkF m 53 #[.val (.ref a1), .val (.int (Int32.ofNat (2 * i + 1))), .val (.int x)] []))
  rw [show (Int32.ofNat (2 * i + 1)).toNatClampNeg = 2 * i + 1 from (own_nat (by omega)).1] at A_a1
  have A_a1 : OAr Z hp28 a1 .byte m' (fun j => if j = 2 * i + 1 then Value.int (own_u8 x 1) else if j = 2 * i then Value.int (own_u8 x 0) else gf j) := A_a1
  exact own_retV X28 hx hlk hret (hb hby d19_53) (by decide) (by decide) (⟨rfl, Nf28, (by rw [e28]; exact K0), (by rw [e28]; exact A_a1)⟩)
theorem d20_0 : decode jdk_52_method_5_code 0 = .ok (.getstatic 44, 3) := by decide +kernel
theorem d20_3 : decode jdk_52_method_5_code 3 = .ok (.ifCond .ne 25, 3) := by decide +kernel
theorem d20_28 : decode jdk_52_method_5_code 28 = .ok (.iload_n 1, 1) := by decide +kernel
theorem d20_29 : decode jdk_52_method_5_code 29 = .ok (.iconst 1, 1) := by decide +kernel
theorem d20_30 : decode jdk_52_method_5_code 30 = .ok (.ishl, 1) := by decide +kernel
theorem d20_31 : decode jdk_52_method_5_code 31 = .ok (.istore_n 1, 1) := by decide +kernel
theorem d20_32 : decode jdk_52_method_5_code 32 = .ok (.aload_n 0, 1) := by decide +kernel
theorem d20_33 : decode jdk_52_method_5_code 33 = .ok (.iload_n 1, 1) := by decide +kernel
theorem d20_34 : decode jdk_52_method_5_code 34 = .ok (.iinc 1 1, 3) := by decide +kernel
theorem d20_37 : decode jdk_52_method_5_code 37 = .ok (.baload, 1) := by decide +kernel
theorem d20_38 : decode jdk_52_method_5_code 38 = .ok (.sipush 255, 3) := by decide +kernel
theorem d20_41 : decode jdk_52_method_5_code 41 = .ok (.iand, 1) := by decide +kernel
theorem d20_42 : decode jdk_52_method_5_code 42 = .ok (.getstatic 59, 3) := by decide +kernel
theorem d20_45 : decode jdk_52_method_5_code 45 = .ok (.ishl, 1) := by decide +kernel
theorem d20_46 : decode jdk_52_method_5_code 46 = .ok (.aload_n 0, 1) := by decide +kernel
theorem d20_47 : decode jdk_52_method_5_code 47 = .ok (.iload_n 1, 1) := by decide +kernel
theorem d20_48 : decode jdk_52_method_5_code 48 = .ok (.baload, 1) := by decide +kernel
theorem d20_49 : decode jdk_52_method_5_code 49 = .ok (.sipush 255, 3) := by decide +kernel
theorem d20_52 : decode jdk_52_method_5_code 52 = .ok (.iand, 1) := by decide +kernel
theorem d20_53 : decode jdk_52_method_5_code 53 = .ok (.getstatic 63, 3) := by decide +kernel
theorem d20_56 : decode jdk_52_method_5_code 56 = .ok (.ishl, 1) := by decide +kernel
theorem d20_57 : decode jdk_52_method_5_code 57 = .ok (.ior, 1) := by decide +kernel
theorem d20_58 : decode jdk_52_method_5_code 58 = .ok (.i2c, 1) := by decide +kernel
theorem d20_59 : decode jdk_52_method_5_code 59 = .ok (.ireturn, 1) := by decide +kernel
theorem ef_20_RI (m : MethodId) (x0 : Addr) (x1 : Int32) : entryFrame m #[(.ref x0), (.int x1)] 2 = mkF m 0 #[.val (.ref x0), .val (.int x1)] [] := by first | (simp [entryFrame, mkF, argsToLocals, Value.category]; done) | rfl
set_option maxRecDepth 65536 in
set_option maxHeartbeats 40000000 in
theorem su5 (l : Launch) (Z : State) (a0 : Array Value) (hw : ∀ d ∈ tables_1, d.before a0 Z = true) (a1 : Addr) (i : Nat) (m' : Nat) (x : Int32) (gf : Nat → Value) (h0 : Heap) (A_a1 : OAr Z h0 a1 .byte m' gf) (S__assertionsDisabled : Sta Z h0 "java/lang/StringUTF16" "$assertionsDisabled" "Z" (.int (1 : Int32))) (S_HI_BYTE_SHIFT : Sta Z h0 "java/lang/StringUTF16" "HI_BYTE_SHIFT" "I" (.int (0 : Int32))) (S_LO_BYTE_SHIFT : Sta Z h0 "java/lang/StringUTF16" "LO_BYTE_SHIFT" "I" (.int (8 : Int32))) (hi : 2 * i + 2 ≤ m') (hm : m' < 2 ^ 20) (hx0 : gf (2 * i) = .int (own_u8 x 0)) (hx1 : gf (2 * i + 1) = .int (own_u8 x 1)) (hb0 : 0 ≤ x.toInt) (hb1 : x.toInt < 65536) :
    OPure l Z (⟨"java/lang/StringUTF16", "getChar", "([BI)C"⟩ : MethodName) jdk_52_method_5_code 2 (some .char) [] ({ frames := 0, cells := 0, slots := 0, locals := 0 } : Room) #[(.ref a1), (.int (Int32.ofNat i))] h0 (some (.int x)) := by
  refine own_body (plainFor_of_name pn_java_lang_StringUTF16) (fun m => ef_20_RI m a1 (Int32.ofNat i)) ?_
  intro p e s m below meth c T0 hx hby hml hown hnm hret hlk hZ X0 e0
  have hown : s.vm.findClass "java/lang/StringUTF16" = some m.cls := hown
  have hml : c.maxLocals = 2 := hml
  show OGo p e below s _ _ (T0.setTop (mkF m 0 #[.val (.ref a1), .val (.int (Int32.ofNat i))] []))
  obtain ⟨T29, X29, e29, st29⟩ := getS2 X0 hx hZ hown (host := "") (Or.inl (hw _ (List.mem_of_getElem? (i := 86) rfl))) Via.refl e0 S__assertionsDisabled (g := (mkF m 0 #[.val (.ref a1), .val (.int (Int32.ofNat i))] [])) rfl (hb hby d20_0)
  refine own_st st29 ?_
  show OGo p e below s _ _ (T29.setTop (mkF m 3 #[.val (.ref a1), .val (.int (Int32.ofNat i))] [(.int (1 : Int32))]))
  refine own_st (fun tt zk => XS.ifYes X29.here hx rfl (pc0 := 3) (pc' := 28) rfl (hb hby d20_3) rfl ((if0 _ _).trans (feq ((by decide : ¬ (1 : Int32) = (0 : Int32)))).2) (by decide) (by decide) zk) ?_
  show OGo p e below s _ _ (T29.setTop (mkF m 28 #[.val (.ref a1), .val (.int (Int32.ofNat i))] []))
  refine own_st (fun tt zk => XS.iloadN X29.here hx rfl (hb hby d20_28) rfl zk) ?_
  show OGo p e below s _ _ (T29.setTop (mkF m 29 #[.val (.ref a1), .val (.int (Int32.ofNat i))] [(.int (Int32.ofNat i))]))
  refine own_st (fun tt zk => XS.iconst X29.here hx rfl (hb hby d20_29) zk) ?_
  show OGo p e below s _ _ (T29.setTop (mkF m 30 #[.val (.ref a1), .val (.int (Int32.ofNat i))] [(.int (1 : Int32)), (.int (Int32.ofNat i))]))
  refine own_st (fun tt zk => XS.ishl X29.here hx rfl (hb hby d20_30) rfl zk) ?_
  show OGo p e below s _ _ (T29.setTop (mkF m 31 #[.val (.ref a1), .val (.int (Int32.ofNat i))] [(.int ((Int32.ofNat i) <<< ((1 : Int32) &&& 31)))]))
  rw [own_shl1 i (by omega)]
  refine own_st (fun tt zk => XS.istoreN X29.here hx rfl (hb hby d20_31) rfl (l' := #[.val (.ref a1), .val (.int (Int32.ofNat (2 * i)))]) rfl zk) ?_
  show OGo p e below s _ _ (T29.setTop (mkF m 32 #[.val (.ref a1), .val (.int (Int32.ofNat (2 * i)))] []))
  refine own_st (fun tt zk => XS.aloadN X29.here hx rfl (hb hby d20_32) rfl rfl zk) ?_
  show OGo p e below s _ _ (T29.setTop (mkF m 33 #[.val (.ref a1), .val (.int (Int32.ofNat (2 * i)))] [(.ref a1)]))
  refine own_st (fun tt zk => XS.iloadN X29.here hx rfl (hb hby d20_33) rfl zk) ?_
  show OGo p e below s _ _ (T29.setTop (mkF m 34 #[.val (.ref a1), .val (.int (Int32.ofNat (2 * i)))] [(.int (Int32.ofNat (2 * i))), (.ref a1)]))
  refine own_st (fun tt zk => XS.iinc X29.here hx rfl (hb hby d20_34) rfl (l' := #[.val (.ref a1), .val (.int ((Int32.ofNat (2 * i)) + (1 : Int32)))]) rfl zk) ?_
  show OGo p e below s _ _ (T29.setTop (mkF m 37 #[.val (.ref a1), .val (.int ((Int32.ofNat (2 * i)) + (1 : Int32)))] [(.int (Int32.ofNat (2 * i))), (.ref a1)]))
  rw [show Int32.ofNat (2 * i) + (1 : Int32) = Int32.ofNat (2 * i + 1) from own_up (2 * i)]
  show OGo p e below s _ _ (T29.setTop (mkF m 37 #[.val (.ref a1), .val (.int (Int32.ofNat (2 * i + 1)))] [(.int (Int32.ofNat (2 * i))), (.ref a1)]))
  obtain ⟨cl30, Ar30, Sz30, Hh30⟩ := id A_a1
  have hin30 := own_in (i := (Int32.ofNat (2 * i))) Sz30 (own_nat (by omega)).2.1 (by rw [(own_nat (by omega)).1]; omega)
  refine own_st (X29.baloadBytes hx (j := (Int32.ofNat (2 * i))) (v := (.int (own_u8 x 0))) (by rw [e29]; exact Ar30.1) (State.isArrayOf_alike hZ.alike Ar30.2.1) Ar30.2.2 hin30 ((Hh30 _ (by rw [(own_nat (by omega)).1]; omega)).trans (congrArg some (by rw [(own_nat (by omega)).1]; exact hx0))) (g := (mkF m 37 #[.val (.ref a1), .val (.int (Int32.ofNat (2 * i + 1)))] [(.int (Int32.ofNat (2 * i))), (.ref a1)])) rfl rfl (hb hby d20_37)) ?_
  show OGo p e below s _ _ (T29.setTop (mkF m 38 #[.val (.ref a1), .val (.int (Int32.ofNat (2 * i + 1)))] [(.int (own_u8 x 0))]))
  refine own_st (fun tt zk => XS.sipush X29.here hx rfl (hb hby d20_38) zk) ?_
  show OGo p e below s _ _ (T29.setTop (mkF m 41 #[.val (.ref a1), .val (.int (Int32.ofNat (2 * i + 1)))] [(.int (255 : Int32)), (.int (own_u8 x 0))]))
  refine own_st (fun tt zk => XS.iand X29.here hx rfl (hb hby d20_41) rfl zk) ?_
  show OGo p e below s _ _ (T29.setTop (mkF m 42 #[.val (.ref a1), .val (.int (Int32.ofNat (2 * i + 1)))] [(.int ((own_u8 x 0) &&& (255 : Int32)))]))
  obtain ⟨T31, X31, e31, st31⟩ := getS2 X29 hx hZ hown (host := "") (Or.inl (hw _ (List.mem_of_getElem? (i := 87) rfl))) Via.refl e29 S_HI_BYTE_SHIFT (g := (mkF m 42 #[.val (.ref a1), .val (.int (Int32.ofNat (2 * i + 1)))] [(.int ((own_u8 x 0) &&& (255 : Int32)))])) rfl (hb hby d20_42)
  refine own_st st31 ?_
  show OGo p e below s _ _ (T31.setTop (mkF m 45 #[.val (.ref a1), .val (.int (Int32.ofNat (2 * i + 1)))] [(.int (0 : Int32)), (.int ((own_u8 x 0) &&& (255 : Int32)))]))
  refine own_st (fun tt zk => XS.ishl X31.here hx rfl (hb hby d20_45) rfl zk) ?_
  show OGo p e below s _ _ (T31.setTop (mkF m 46 #[.val (.ref a1), .val (.int (Int32.ofNat (2 * i + 1)))] [(.int (((own_u8 x 0) &&& (255 : Int32)) <<< ((0 : Int32) &&& 31)))]))
  refine own_st (fun tt zk => XS.aloadN X31.here hx rfl (hb hby d20_46) rfl rfl zk) ?_
  show OGo p e below s _ _ (T31.setTop (mkF m 47 #[.val (.ref a1), .val (.int (Int32.ofNat (2 * i + 1)))] [(.ref a1), (.int (((own_u8 x 0) &&& (255 : Int32)) <<< ((0 : Int32) &&& 31)))]))
  refine own_st (fun tt zk => XS.iloadN X31.here hx rfl (hb hby d20_47) rfl zk) ?_
  show OGo p e below s _ _ (T31.setTop (mkF m 48 #[.val (.ref a1), .val (.int (Int32.ofNat (2 * i + 1)))] [(.int (Int32.ofNat (2 * i + 1))), (.ref a1), (.int (((own_u8 x 0) &&& (255 : Int32)) <<< ((0 : Int32) &&& 31)))]))
  obtain ⟨cl32, Ar32, Sz32, Hh32⟩ := id A_a1
  have hin32 := own_in (i := (Int32.ofNat (2 * i + 1))) Sz32 (own_nat (by omega)).2.1 (by rw [(own_nat (by omega)).1]; omega)
  refine own_st (X31.baloadBytes hx (j := (Int32.ofNat (2 * i + 1))) (v := (.int (own_u8 x 1))) (by rw [e31]; exact Ar32.1) (State.isArrayOf_alike hZ.alike Ar32.2.1) Ar32.2.2 hin32 ((Hh32 _ (by rw [(own_nat (by omega)).1]; omega)).trans (congrArg some (by rw [(own_nat (by omega)).1]; exact hx1))) (g := (mkF m 48 #[.val (.ref a1), .val (.int (Int32.ofNat (2 * i + 1)))] [(.int (Int32.ofNat (2 * i + 1))), (.ref a1), (.int (((own_u8 x 0) &&& (255 : Int32)) <<< ((0 : Int32) &&& 31)))])) rfl rfl (hb hby d20_48)) ?_
  show OGo p e below s _ _ (T31.setTop (mkF m 49 #[.val (.ref a1), .val (.int (Int32.ofNat (2 * i + 1)))] [(.int (own_u8 x 1)), (.int (((own_u8 x 0) &&& (255 : Int32)) <<< ((0 : Int32) &&& 31)))]))
  refine own_st (fun tt zk => XS.sipush X31.here hx rfl (hb hby d20_49) zk) ?_
  show OGo p e below s _ _ (T31.setTop (mkF m 52 #[.val (.ref a1), .val (.int (Int32.ofNat (2 * i + 1)))] [(.int (255 : Int32)), (.int (own_u8 x 1)), (.int (((own_u8 x 0) &&& (255 : Int32)) <<< ((0 : Int32) &&& 31)))]))
  refine own_st (fun tt zk => XS.iand X31.here hx rfl (hb hby d20_52) rfl zk) ?_
  show OGo p e below s _ _ (T31.setTop (mkF m 53 #[.val (.ref a1), .val (.int (Int32.ofNat (2 * i + 1)))] [(.int ((own_u8 x 1) &&& (255 : Int32))), (.int (((own_u8 x 0) &&& (255 : Int32)) <<< ((0 : Int32) &&& 31)))]))
  obtain ⟨T33, X33, e33, st33⟩ := getS2 X31 hx hZ hown (host := "") (Or.inl (hw _ (List.mem_of_getElem? (i := 88) rfl))) Via.refl e31 S_LO_BYTE_SHIFT (g := (mkF m 53 #[.val (.ref a1), .val (.int (Int32.ofNat (2 * i + 1)))] [(.int ((own_u8 x 1) &&& (255 : Int32))), (.int (((own_u8 x 0) &&& (255 : Int32)) <<< ((0 : Int32) &&& 31)))])) rfl (hb hby d20_53)
  refine own_st st33 ?_
  show OGo p e below s _ _ (T33.setTop (mkF m 56 #[.val (.ref a1), .val (.int (Int32.ofNat (2 * i + 1)))] [(.int (8 : Int32)), (.int ((own_u8 x 1) &&& (255 : Int32))), (.int (((own_u8 x 0) &&& (255 : Int32)) <<< ((0 : Int32) &&& 31)))]))
  refine own_st (fun tt zk => XS.ishl X33.here hx rfl (hb hby d20_56) rfl zk) ?_
  show OGo p e below s _ _ (T33.setTop (mkF m 57 #[.val (.ref a1), .val (.int (Int32.ofNat (2 * i + 1)))] [(.int (((own_u8 x 1) &&& (255 : Int32)) <<< ((8 : Int32) &&& 31))), (.int (((own_u8 x 0) &&& (255 : Int32)) <<< ((0 : Int32) &&& 31)))]))
  refine own_st (fun tt zk => XS.ior X33.here hx rfl (hb hby d20_57) rfl zk) ?_
  show OGo p e below s _ _ (T33.setTop (mkF m 58 #[.val (.ref a1), .val (.int (Int32.ofNat (2 * i + 1)))] [(.int ((((own_u8 x 0) &&& (255 : Int32)) <<< ((0 : Int32) &&& 31)) ||| (((own_u8 x 1) &&& (255 : Int32)) <<< ((8 : Int32) &&& 31))))]))
  refine own_st (fun tt zk => XS.i2c X33.here hx rfl (hb hby d20_58) rfl zk) ?_
  show OGo p e below s _ _ (T33.setTop (mkF m 59 #[.val (.ref a1), .val (.int (Int32.ofNat (2 * i + 1)))] [(.int ((((own_u8 x 0) &&& (255 : Int32)) <<< ((0 : Int32) &&& 31)) ||| (((own_u8 x 1) &&& (255 : Int32)) <<< ((8 : Int32) &&& 31))).toUInt32.toUInt16.toUInt32.toInt32)]))
  rw [own_gc x hb0 hb1]
  exact own_retN X33 hx hlk (t := .char) hret (by simp) (hb hby d20_59) (by decide) (by decide) (⟨(congrArg (fun z => some (Value.int z)) (own_nc x hb0 hb1)), rfl, e33⟩)
theorem d16_0 : decode jdk_52_method_14_code 0 = .ok (.iload_n 2, 1) := by decide +kernel
theorem d16_1 : decode jdk_52_method_14_code 1 = .ok (.invokestatic 107, 3) := by decide +kernel
theorem pd_6 : parseMethodDescriptor "(I)[B" = some ⟨[.int], some (.array .byte)⟩ := by decide +kernel
theorem d16_4 : decode jdk_52_method_14_code 4 = .ok (.astore_n 3, 1) := by decide +kernel
theorem d16_5 : decode jdk_52_method_14_code 5 = .ok (.iconst 0, 1) := by decide +kernel
theorem d16_6 : decode jdk_52_method_14_code 6 = .ok (.istore 4, 2) := by decide +kernel
theorem d16_8 : decode jdk_52_method_14_code 8 = .ok (.iload 4, 2) := by decide +kernel
theorem d16_10 : decode jdk_52_method_14_code 10 = .ok (.iload_n 2, 1) := by decide +kernel
theorem d16_11 : decode jdk_52_method_14_code 11 = .ok (.if_icmp .ge 21, 3) := by decide +kernel
theorem d16_32 : decode jdk_52_method_14_code 32 = .ok (.aload_n 3, 1) := by decide +kernel
theorem d16_33 : decode jdk_52_method_14_code 33 = .ok (.areturn, 1) := by decide +kernel
theorem d16_14 : decode jdk_52_method_14_code 14 = .ok (.aload_n 3, 1) := by decide +kernel
theorem d16_15 : decode jdk_52_method_14_code 15 = .ok (.iload 4, 2) := by decide +kernel
theorem d16_17 : decode jdk_52_method_14_code 17 = .ok (.aload_n 0, 1) := by decide +kernel
theorem d16_18 : decode jdk_52_method_14_code 18 = .ok (.iload_n 1, 1) := by decide +kernel
theorem d16_19 : decode jdk_52_method_14_code 19 = .ok (.caload, 1) := by decide +kernel
theorem pd_7 : parseMethodDescriptor "([BII)V" = some ⟨[(.array .byte), .int, .int], none⟩ := by decide +kernel
theorem d16_20 : decode jdk_52_method_14_code 20 = .ok (.invokestatic 111, 3) := by decide +kernel
theorem d16_23 : decode jdk_52_method_14_code 23 = .ok (.iinc 1 1, 3) := by decide +kernel
theorem d16_26 : decode jdk_52_method_14_code 26 = .ok (.iinc 4 1, 3) := by decide +kernel
theorem d16_29 : decode jdk_52_method_14_code 29 = .ok (.goto (-21), 3) := by decide +kernel
theorem ef_16_RII (m : MethodId) (x0 : Addr) (x1 : Int32) (x2 : Int32) : entryFrame m #[(.ref x0), (.int x1), (.int x2)] 5 = mkF m 0 #[.val (.ref x0), .val (.int x1), .val (.int x2), .unset, .unset] [] := by first | (simp [entryFrame, mkF, argsToLocals, Value.category]; done) | rfl
set_option maxRecDepth 65536 in
set_option maxHeartbeats 40000000 in
theorem su6 (l : Launch) (Z : State) (a0 : Array Value) (hw : ∀ d ∈ tables_1, d.before a0 Z = true) (a1 : Addr) (n : Nat) (cf : Nat → Int32) (h0 : Heap) (n0 : Nat) (Z0 : n0 ≤ h0.size) (A_a1 : OAr Z h0 a1 .char n (fun j => .int (cf j))) (S__assertionsDisabled : Sta Z h0 "java/lang/StringUTF16" "$assertionsDisabled" "Z" (.int (1 : Int32))) (S_HI_BYTE_SHIFT : Sta Z h0 "java/lang/StringUTF16" "HI_BYTE_SHIFT" "I" (.int (0 : Int32))) (S_LO_BYTE_SHIFT : Sta Z h0 "java/lang/StringUTF16" "LO_BYTE_SHIFT" "I" (.int (8 : Int32))) (hn : n ≤ 3) :
    OMet l Z (⟨"java/lang/StringUTF16", "toBytes", "([CII)[B"⟩ : MethodName) jdk_52_method_14_code 5 (some (.array .byte)) [] ({ frames := 2, cells := 1, slots := 6, locals := 24 } : Room) #[(.ref a1), (.int (0 : Int32)), (.int (Int32.ofNat n))] h0 (fun v h' L => ∃ t1 : Addr, v = some (.ref t1) ∧ Fr n0 L ∧ Keep h0 h' [] ∧ h0.size ≤ t1 ∧ OAr Z h' t1 .byte (2 * n) (own_ub cf)) := by
  refine own_body (plainFor_of_name pn_java_lang_StringUTF16) (fun m => ef_16_RII m a1 (0 : Int32) (Int32.ofNat n)) ?_
  intro p e s m below meth c T0 hx hby hml hown hnm hret hlk hZ X0 e0
  have hown : s.vm.findClass "java/lang/StringUTF16" = some m.cls := hown
  have hml : c.maxLocals = 5 := hml
  have N0 := Fr.nil n0
  have K0 := Keep.refl h0 []
  show OGo p e below s _ _ (T0.setTop (mkF m 0 #[.val (.ref a1), .val (.int (0 : Int32)), .val (.int (Int32.ofNat n)), .unset, .unset] []))
  refine own_st (fun tt zk => XS.iloadN X0.here hx rfl (hb hby d16_0) rfl zk) ?_
  show OGo p e below s _ _ (T0.setTop (mkF m 1 #[.val (.ref a1), .val (.int (0 : Int32)), .val (.int (Int32.ofNat n)), .unset, .unset] [(.int (Int32.ofNat n))]))
  obtain ⟨_, T34, Lc34, X34, hQ34, st34⟩ := own_callS X0 hx hZ (y := (⟨"java/lang/StringUTF16", "newBytesFor", "(I)[B"⟩ : MethodName)) (W := 0) hown (hw _ (List.mem_of_getElem? (i := 76) rfl)) (hw _ (List.mem_of_getElem? (i := 77) rfl)) (hw _ (List.mem_of_getElem? (i := 39) rfl)) (hw _ (List.mem_of_getElem? (i := 78) rfl)) (by decide) (su3 l Z a0 hw n h0 n0 Z0 hn) (by decide) (by decide) (g := (mkF m 1 #[.val (.ref a1), .val (.int (0 : Int32)), .val (.int (Int32.ofNat n)), .unset, .unset] [(.int (Int32.ofNat n))])) rfl (by rw [hml]; rfl) (argsL := [(.int (Int32.ofNat n))]) (rest := []) (lenOf pd_6 rfl) rfl (by show 2 * 0 + _ ≤ _; exact Nat.le_of_eq rfl) (hb hby d16_1) rfl e0 (by decide) (by decide)
  obtain ⟨t1, rfl, Nq34, Kq34, fq34_t1, q34_0⟩ := hQ34
  have ne_a1_t1 : a1 ≠ t1 := Nat.ne_of_lt (Nat.lt_of_lt_of_le A_a1.lt fq34_t1)
  have old_t1 : n0 ≤ t1 := Nat.le_trans Z0 fq34_t1
  have fr_t1 : h0.size ≤ t1 := Nat.le_trans K0.1 fq34_t1
  have hpl_Kq34 : ∀ w ∈ ([] : List Addr), ∃ c : Cell, h0[w]? = some c ∧ c.vm.isStatics = false := all0
  have Z0 := Nat.le_trans Z0 Kq34.1
  have K0 := K0.trans Kq34 all0
  have A_a1 := A_a1.keep Kq34 nin0
  have S__assertionsDisabled := own_sta_keep S__assertionsDisabled Kq34 hpl_Kq34
  have S_HI_BYTE_SHIFT := own_sta_keep S_HI_BYTE_SHIFT Kq34 hpl_Kq34
  have S_LO_BYTE_SHIFT := own_sta_keep S_LO_BYTE_SHIFT Kq34 hpl_Kq34
  have Nr34 := Fr.app N0 Nq34
  have A_t1 := q34_0
  refine own_st st34 ?_
  show OGo p e below s _ _ (T34.setTop (mkF m 4 #[.val (.ref a1), .val (.int (0 : Int32)), .val (.int (Int32.ofNat n)), .unset, .unset] [(.ref t1)]))
  refine own_st (fun tt zk => XS.astoreN X34.here hx rfl (hb hby d16_4) rfl rfl (l' := #[.val (.ref a1), .val (.int (0 : Int32)), .val (.int (Int32.ofNat n)), .val (.ref t1), .unset]) rfl zk) ?_
  show OGo p e below s _ _ (T34.setTop (mkF m 5 #[.val (.ref a1), .val (.int (0 : Int32)), .val (.int (Int32.ofNat n)), .val (.ref t1), .unset] []))
  refine own_st (fun tt zk => XS.iconst X34.here hx rfl (hb hby d16_5) zk) ?_
  show OGo p e below s _ _ (T34.setTop (mkF m 6 #[.val (.ref a1), .val (.int (0 : Int32)), .val (.int (Int32.ofNat n)), .val (.ref t1), .unset] [(.int (0 : Int32))]))
  refine own_st (fun tt zk => XS.istore X34.here hx rfl (hb hby d16_6) rfl (l' := #[.val (.ref a1), .val (.int (0 : Int32)), .val (.int (Int32.ofNat n)), .val (.ref t1), .val (.int (0 : Int32))]) rfl zk) ?_
  show OGo p e below s _ _ (T34.setTop (mkF m 8 #[.val (.ref a1), .val (.int (0 : Int32)), .val (.int (Int32.ofNat n)), .val (.ref t1), .val (.int (0 : Int32))] []))
  have A_t1 := A_t1.cong (own_ubs0 cf (fun _ => defaultValue .byte) (2 * n))
  have loop : ∀ (k i : Nat) (TL : State) (LL : List Loc) (hL : Heap), i + k = n → Stand p l e ({ frames := 2, cells := 1, slots := 6, locals := 24 } : Room) s m #[(.ref a1), (.int (0 : Int32)), (.int (Int32.ofNat n))] below meth c TL LL 1 6 → TL.heap = hL → Fr n0 LL → n0 ≤ hL.size → Keep h0 hL [] → OAr Z hL a1 .char n (fun j => .int (cf j)) → Sta Z hL "java/lang/StringUTF16" "$assertionsDisabled" "Z" (.int (1 : Int32)) → Sta Z hL "java/lang/StringUTF16" "HI_BYTE_SHIFT" "I" (.int (0 : Int32)) → Sta Z hL "java/lang/StringUTF16" "LO_BYTE_SHIFT" "I" (.int (8 : Int32)) → OAr Z hL t1 .byte (2 * n) (own_ubs cf (fun _ => defaultValue .byte) i) → OGo p e below s ({ frames := 2, cells := 1, slots := 6, locals := 24 } : Room) (fun v h' L => ∃ t1 : Addr, v = some (.ref t1) ∧ Fr n0 L ∧ Keep h0 h' [] ∧ h0.size ≤ t1 ∧ OAr Z h' t1 .byte (2 * n) (own_ub cf)) (TL.setTop (mkF m 8 #[.val (.ref a1), .val (.int (Int32.ofNat i)), .val (.int (Int32.ofNat n)), .val (.ref t1), .val (.int (Int32.ofNat i))] [])) := by
    intro k
    induction k with
    | zero =>
      intro i TL LL hL hi XL eL NL Z0 K0 A_a1 S__assertionsDisabled S_HI_BYTE_SHIFT S_LO_BYTE_SHIFT A_t1
      obtain rfl : n = i := by omega
      show OGo p e below s _ _ (TL.setTop (mkF m 8 #[.val (.ref a1), .val (.int (Int32.ofNat n)), .val (.int (Int32.ofNat n)), .val (.ref t1), .val (.int (Int32.ofNat n))] []))
      refine own_st (fun tt zk => XS.iload XL.here hx rfl (hb hby d16_8) rfl zk) ?_
      show OGo p e below s _ _ (TL.setTop (mkF m 10 #[.val (.ref a1), .val (.int (Int32.ofNat n)), .val (.int (Int32.ofNat n)), .val (.ref t1), .val (.int (Int32.ofNat n))] [(.int (Int32.ofNat n))]))
      refine own_st (fun tt zk => XS.iloadN XL.here hx rfl (hb hby d16_10) rfl zk) ?_
      show OGo p e below s _ _ (TL.setTop (mkF m 11 #[.val (.ref a1), .val (.int (Int32.ofNat n)), .val (.int (Int32.ofNat n)), .val (.ref t1), .val (.int (Int32.ofNat n))] [(.int (Int32.ofNat n)), (.int (Int32.ofNat n))]))
      refine own_st (fun tt zk => XS.icmpYes XL.here hx rfl (pc0 := 11) (pc' := 32) rfl (hb hby d16_11) rfl (flt ((fun q => absurd ((own_lt (by omega) (by omega)).mp q) (Nat.lt_irrefl _)))).2.1 (by decide) (by decide) zk) ?_
      show OGo p e below s _ _ (TL.setTop (mkF m 32 #[.val (.ref a1), .val (.int (Int32.ofNat n)), .val (.int (Int32.ofNat n)), .val (.ref t1), .val (.int (Int32.ofNat n))] []))
      refine own_st (fun tt zk => XS.aloadN XL.here hx rfl (hb hby d16_32) rfl rfl zk) ?_
      show OGo p e below s _ _ (TL.setTop (mkF m 33 #[.val (.ref a1), .val (.int (Int32.ofNat n)), .val (.int (Int32.ofNat n)), .val (.ref t1), .val (.int (Int32.ofNat n))] [(.ref t1)]))
      have A_t1 := A_t1.cong (own_ubsN cf (fun _ => defaultValue .byte) n)
      exact own_retA XL hx hlk hret rfl rfl (hb hby d16_33) (by decide) (by decide) (⟨t1, rfl, NL, (by rw [eL]; exact K0), fr_t1, (by rw [eL]; exact A_t1)⟩)
    | succ k ih =>
      intro i TL LL hL hi XL eL NL Z0 K0 A_a1 S__assertionsDisabled S_HI_BYTE_SHIFT S_LO_BYTE_SHIFT A_t1
      show OGo p e below s _ _ (TL.setTop (mkF m 8 #[.val (.ref a1), .val (.int (Int32.ofNat i)), .val (.int (Int32.ofNat n)), .val (.ref t1), .val (.int (Int32.ofNat i))] []))
      refine own_st (fun tt zk => XS.iload XL.here hx rfl (hb hby d16_8) rfl zk) ?_
      show OGo p e below s _ _ (TL.setTop (mkF m 10 #[.val (.ref a1), .val (.int (Int32.ofNat i)), .val (.int (Int32.ofNat n)), .val (.ref t1), .val (.int (Int32.ofNat i))] [(.int (Int32.ofNat i))]))
      refine own_st (fun tt zk => XS.iloadN XL.here hx rfl (hb hby d16_10) rfl zk) ?_
      show OGo p e below s _ _ (TL.setTop (mkF m 11 #[.val (.ref a1), .val (.int (Int32.ofNat i)), .val (.int (Int32.ofNat n)), .val (.ref t1), .val (.int (Int32.ofNat i))] [(.int (Int32.ofNat n)), (.int (Int32.ofNat i))]))
      refine own_st (fun tt zk => XS.icmpNo XL.here hx rfl (hb hby d16_11) rfl (tlt (((own_lt (by omega) (by omega)).mpr (by omega)))).2.1 zk) ?_
      show OGo p e below s _ _ (TL.setTop (mkF m 14 #[.val (.ref a1), .val (.int (Int32.ofNat i)), .val (.int (Int32.ofNat n)), .val (.ref t1), .val (.int (Int32.ofNat i))] []))
      refine own_st (fun tt zk => XS.aloadN XL.here hx rfl (hb hby d16_14) rfl rfl zk) ?_
      show OGo p e below s _ _ (TL.setTop (mkF m 15 #[.val (.ref a1), .val (.int (Int32.ofNat i)), .val (.int (Int32.ofNat n)), .val (.ref t1), .val (.int (Int32.ofNat i))] [(.ref t1)]))
      refine own_st (fun tt zk => XS.iload XL.here hx rfl (hb hby d16_15) rfl zk) ?_
      show OGo p e below s _ _ (TL.setTop (mkF m 17 #[.val (.ref a1), .val (.int (Int32.ofNat i)), .val (.int (Int32.ofNat n)), .val (.ref t1), .val (.int (Int32.ofNat i))] [(.int (Int32.ofNat i)), (.ref t1)]))
      refine own_st (fun tt zk => XS.aloadN XL.here hx rfl (hb hby d16_17) rfl rfl zk) ?_
      show OGo p e below s _ _ (TL.setTop (mkF m 18 #[.val (.ref a1), .val (.int (Int32.ofNat i)), .val (.int (Int32.ofNat n)), .val (.ref t1), .val (.int (Int32.ofNat i))] [(.ref a1), (.int (Int32.ofNat i)), (.ref t1)]))
      refine own_st (fun tt zk => XS.iloadN XL.here hx rfl (hb hby d16_18) rfl zk) ?_
      show OGo p e below s _ _ (TL.setTop (mkF m 19 #[.val (.ref a1), .val (.int (Int32.ofNat i)), .val (.int (Int32.ofNat n)), .val (.ref t1), .val (.int (Int32.ofNat i))] [(.int (Int32.ofNat i)), (.ref a1), (.int (Int32.ofNat i)), (.ref t1)]))
      obtain ⟨cl35, Ar35, Sz35, Hh35⟩ := id A_a1
      have hin35 := own_in (i := (Int32.ofNat i)) Sz35 (own_nat (by omega)).2.1 (by rw [(own_nat (by omega)).1]; omega)
      refine own_st (XL.caload hx (j := (Int32.ofNat i)) (v := (.int (cf i))) (by rw [eL]; exact Ar35.1) (State.isArrayOf_alike hZ.alike Ar35.2.1) Ar35.2.2 hin35 ((Hh35 _ (by rw [(own_nat (by omega)).1]; omega)).trans (congrArg some (by rw [(own_nat (by omega)).1]))) (g := (mkF m 19 #[.val (.ref a1), .val (.int (Int32.ofNat i)), .val (.int (Int32.ofNat n)), .val (.ref t1), .val (.int (Int32.ofNat i))] [(.int (Int32.ofNat i)), (.ref a1), (.int (Int32.ofNat i)), (.ref t1)])) rfl rfl (hb hby d16_19)) ?_
      show OGo p e below s _ _ (TL.setTop (mkF m 20 #[.val (.ref a1), .val (.int (Int32.ofNat i)), .val (.int (Int32.ofNat n)), .val (.ref t1), .val (.int (Int32.ofNat i))] [(.int (cf i)), (.int (Int32.ofNat i)), (.ref t1)]))
      obtain ⟨_, T36, Lc36, X36, hQ36, st36⟩ := own_callS XL hx hZ (y := (⟨"java/lang/StringUTF16", "putChar", "([BII)V"⟩ : MethodName)) (W := 0) hown (hw _ (List.mem_of_getElem? (i := 83) rfl)) (hw _ (List.mem_of_getElem? (i := 84) rfl)) (hw _ (List.mem_of_getElem? (i := 39) rfl)) (hw _ (List.mem_of_getElem? (i := 85) rfl)) (by decide) (su4 l Z a0 hw t1 (cf i) i (2 * n) (own_ubs cf (fun _ => defaultValue .byte) i) hL n0 Z0 old_t1 A_t1 S__assertionsDisabled S_HI_BYTE_SHIFT S_LO_BYTE_SHIFT (by omega) (by omega)) (by decide) (by decide) (g := (mkF m 20 #[.val (.ref a1), .val (.int (Int32.ofNat i)), .val (.int (Int32.ofNat n)), .val (.ref t1), .val (.int (Int32.ofNat i))] [(.int (cf i)), (.int (Int32.ofNat i)), (.ref t1)])) rfl (by rw [hml]; rfl) (argsL := [(.ref t1), (.int (Int32.ofNat i)), (.int (cf i))]) (rest := []) (lenOf pd_7 rfl) rfl (by show 2 * 0 + _ ≤ _; exact Nat.le_of_eq rfl) (hb hby d16_20) rfl eL (by decide) (by decide)
      obtain ⟨rfl, Nq36, Kq36, q36_0⟩ := hQ36
      have hpl_Kq36 : ∀ w ∈ [t1], ∃ c : Cell, hL[w]? = some c ∧ c.vm.isStatics = false := (allS (own_pl_arr A_t1) all0)
      have Z0 := Nat.le_trans Z0 Kq36.1
      have K0 := K0.trans Kq36 (allS (Or.inr fr_t1) all0)
      have A_a1 := A_a1.keep Kq36 (ninS ne_a1_t1 nin0)
      have S__assertionsDisabled := own_sta_keep S__assertionsDisabled Kq36 hpl_Kq36
      have S_HI_BYTE_SHIFT := own_sta_keep S_HI_BYTE_SHIFT Kq36 hpl_Kq36
      have S_LO_BYTE_SHIFT := own_sta_keep S_LO_BYTE_SHIFT Kq36 hpl_Kq36
      have Nr36 := Fr.app NL Nq36
      have A_t1 := q36_0
      refine own_st st36 ?_
      show OGo p e below s _ _ (T36.setTop (mkF m 23 #[.val (.ref a1), .val (.int (Int32.ofNat i)), .val (.int (Int32.ofNat n)), .val (.ref t1), .val (.int (Int32.ofNat i))] []))
      have A_t1 := A_t1.cong (own_ubsS cf (fun _ => defaultValue .byte) (2 * n) i)
      refine own_st (fun tt zk => XS.iinc X36.here hx rfl (hb hby d16_23) rfl (l' := #[.val (.ref a1), .val (.int ((Int32.ofNat i) + (1 : Int32))), .val (.int (Int32.ofNat n)), .val (.ref t1), .val (.int (Int32.ofNat i))]) rfl zk) ?_
      show OGo p e below s _ _ (T36.setTop (mkF m 26 #[.val (.ref a1), .val (.int ((Int32.ofNat i) + (1 : Int32))), .val (.int (Int32.ofNat n)), .val (.ref t1), .val (.int (Int32.ofNat i))] []))
      refine own_st (fun tt zk => XS.iinc X36.here hx rfl (hb hby d16_26) rfl (l' := #[.val (.ref a1), .val (.int ((Int32.ofNat i) + (1 : Int32))), .val (.int (Int32.ofNat n)), .val (.ref t1), .val (.int ((Int32.ofNat i) + (1 : Int32)))]) rfl zk) ?_
      show OGo p e below s _ _ (T36.setTop (mkF m 29 #[.val (.ref a1), .val (.int ((Int32.ofNat i) + (1 : Int32))), .val (.int (Int32.ofNat n)), .val (.ref t1), .val (.int ((Int32.ofNat i) + (1 : Int32)))] []))
      refine own_st (fun tt zk => XS.goto X36.here hx rfl (pc0 := 29) (pc' := 8) rfl (hb hby d16_29) (by decide) (by decide) zk) ?_
      show OGo p e below s _ _ (T36.setTop (mkF m 8 #[.val (.ref a1), .val (.int ((Int32.ofNat i) + (1 : Int32))), .val (.int (Int32.ofNat n)), .val (.ref t1), .val (.int ((Int32.ofNat i) + (1 : Int32)))] []))
      rw [own_up]
      exact ih (i + 1) T36 _ T36.heap (by omega) X36 rfl Nr36 Z0 K0 A_a1 S__assertionsDisabled S_HI_BYTE_SHIFT S_LO_BYTE_SHIFT A_t1
  exact loop n 0 _ _ _ (by omega) X34 rfl Nr34 Z0 K0 A_a1 S__assertionsDisabled S_HI_BYTE_SHIFT S_LO_BYTE_SHIFT A_t1
theorem own_ofne {i j : Nat} (hi : i < 2 ^ 31) (hj : j < 2 ^ 31) (h : i ≠ j) : ¬ Int32.ofNat i = Int32.ofNat j := fun q => by
  have e := (own_nat hi).1
  rw [q, (own_nat hj).1] at e
  exact h e.symm
theorem own_ub0 (f : Nat → Int32) (i : Nat) : own_ub f (2 * i) = .int (own_u8 (f i) 0) := by
  have e1 : (2 * i) / 2 = i := by omega
  have e2 : (2 * i) % 2 = 0 := by omega
  simp [own_ub, e1, e2]
theorem own_ub1 (f : Nat → Int32) (i : Nat) : own_ub f (2 * i + 1) = .int (own_u8 (f i) 1) := by
  have e1 : (2 * i + 1) / 2 = i := by omega
  have e2 : (2 * i + 1) % 2 = 1 := by omega
  simp [own_ub, e1, e2]
theorem d7_20 : decode jdk_52_method_16_code 20 = .ok (.aload_n 0, 1) := by decide +kernel
theorem d7_21 : decode jdk_52_method_16_code 21 = .ok (.iload_n 1, 1) := by decide +kernel
theorem d7_22 : decode jdk_52_method_16_code 22 = .ok (.iload_n 2, 1) := by decide +kernel
theorem d7_23 : decode jdk_52_method_16_code 23 = .ok (.invokestatic 119, 3) := by decide +kernel
theorem d7_26 : decode jdk_52_method_16_code 26 = .ok (.astore 5, 2) := by decide +kernel
theorem d7_28 : decode jdk_52_method_16_code 28 = .ok (.aload 5, 2) := by decide +kernel
theorem d7_30 : decode jdk_52_method_16_code 30 = .ok (.iload 4, 2) := by decide +kernel
theorem d7_32 : decode jdk_52_method_16_code 32 = .ok (.invokestatic 71, 3) := by decide +kernel
theorem pd_8 : parseMethodDescriptor "([BI)C" = some ⟨[(.array .byte), .int], some .char⟩ := by decide +kernel
theorem d7_35 : decode jdk_52_method_16_code 35 = .ok (.sipush 255, 3) := by decide +kernel
theorem d7_38 : decode jdk_52_method_16_code 38 = .ok (.if_icmp .gt 16, 3) := by decide +kernel
theorem d7_54 : decode jdk_52_method_16_code 54 = .ok (.aload 5, 2) := by decide +kernel
theorem d7_56 : decode jdk_52_method_16_code 56 = .ok (.areturn, 1) := by decide +kernel
set_option maxRecDepth 65536 in
set_option maxHeartbeats 40000000 in
theorem su7 (l : Launch) (Z : State) (a0 : Array Value) (hw : ∀ d ∈ tables_1, d.before a0 Z = true) (a1 : Addr) (n : Nat) (k : Nat) (cf : Nat → Int32) (h0 : Heap) (n0 : Nat) (Z0 : n0 ≤ h0.size) (A_a1 : OAr Z h0 a1 .char n (fun j => .int (cf j))) (S__assertionsDisabled : Sta Z h0 "java/lang/StringUTF16" "$assertionsDisabled" "Z" (.int (1 : Int32))) (S_HI_BYTE_SHIFT : Sta Z h0 "java/lang/StringUTF16" "HI_BYTE_SHIFT" "I" (.int (0 : Int32))) (S_LO_BYTE_SHIFT : Sta Z h0 "java/lang/StringUTF16" "LO_BYTE_SHIFT" "I" (.int (8 : Int32))) (hn : n ≤ 3) (hk : k < n) (hc : ∀ j, j < k → ¬ (255 : Int32) < cf j) (hck : (255 : Int32) < cf k) (hbd : ∀ j, j < n → 0 ≤ (cf j).toInt ∧ (cf j).toInt < 65536) :
    OMet l Z (⟨"java/lang/StringUTF16", "compress", "([CII)[B"⟩ : MethodName) jdk_52_method_16_code 6 (some (.array .byte)) [] ({ frames := 3, cells := 2, slots := 9, locals := 40 } : Room) #[(.ref a1), (.int (0 : Int32)), (.int (Int32.ofNat n))] h0 (fun v h' L => ∃ t1 : Addr, v = some (.ref t1) ∧ Fr n0 L ∧ Keep h0 h' [] ∧ h0.size ≤ t1 ∧ OAr Z h' t1 .byte (2 * n) (own_ub cf)) := by
  refine own_body (plainFor_of_name pn_java_lang_StringUTF16) (fun m => ef_7_RII m a1 (0 : Int32) (Int32.ofNat n)) ?_
  intro p e s m below meth c T0 hx hby hml hown hnm hret hlk hZ X0 e0
  have hown : s.vm.findClass "java/lang/StringUTF16" = some m.cls := hown
  have hml : c.maxLocals = 6 := hml
  have N0 := Fr.nil n0
  have K0 := Keep.refl h0 []
  show OGo p e below s _ _ (T0.setTop (mkF m 0 #[.val (.ref a1), .val (.int (0 : Int32)), .val (.int (Int32.ofNat n)), .unset, .unset, .unset] []))
  refine own_st (fun tt zk => XS.iloadN X0.here hx rfl (hb hby d7_0) rfl zk) ?_
  show OGo p e below s _ _ (T0.setTop (mkF m 1 #[.val (.ref a1), .val (.int (0 : Int32)), .val (.int (Int32.ofNat n)), .unset, .unset, .unset] [(.int (Int32.ofNat n))]))
  obtain ⟨T37, hp37, kk37, X37, e37, Ex37, Aa37, st37⟩ := newP X0 hx hZ (hw _ (List.mem_of_getElem? (i := 15) rfl)) e0 (g := (mkF m 1 #[.val (.ref a1), .val (.int (0 : Int32)), .val (.int (Int32.ofNat n)), .unset, .unset, .unset] [(.int (Int32.ofNat n))])) rfl (hb hby d7_1) rfl (own_nat (i := n) (by omega)).2.1 (cap := 3) (by rw [(own_nat (i := n) (by omega)).1]; exact hn) (by decide) (by decide) (by decide)
  obtain ⟨t0, gs37⟩ : ∃ z, z = h0.size := ⟨_, rfl⟩
  rw [← gs37] at Aa37 st37
  have ne_a1_t0 : a1 ≠ t0 := Nat.ne_of_lt (Nat.lt_of_lt_of_le A_a1.lt (Nat.le_of_eq gs37.symm))
  have old_t0 : n0 ≤ t0 := Nat.le_trans Z0 (Nat.le_of_eq gs37.symm)
  have fr_t0 : h0.size ≤ t0 := Nat.le_trans K0.1 (Nat.le_of_eq gs37.symm)
  have K0 := K0.ext Ex37
  have Z0 := Nat.le_trans Z0 Ex37.1
  have A_a1 := A_a1.ext Ex37
  have S__assertionsDisabled := S__assertionsDisabled.ext Ex37
  have S_HI_BYTE_SHIFT := S_HI_BYTE_SHIFT.ext Ex37
  have S_LO_BYTE_SHIFT := S_LO_BYTE_SHIFT.ext Ex37
  have A_t0 := OAr.new Aa37
  refine own_st st37 ?_
  show OGo p e below s _ _ (T37.setTop (mkF m 3 #[.val (.ref a1), .val (.int (0 : Int32)), .val (.int (Int32.ofNat n)), .unset, .unset, .unset] [(.ref t0)]))
  rw [(own_nat (i := n) (by omega)).1] at A_t0
  refine own_st (fun tt zk => XS.astoreN X37.here hx rfl (hb hby d7_3) rfl rfl (l' := #[.val (.ref a1), .val (.int (0 : Int32)), .val (.int (Int32.ofNat n)), .val (.ref t0), .unset, .unset]) rfl zk) ?_
  show OGo p e below s _ _ (T37.setTop (mkF m 4 #[.val (.ref a1), .val (.int (0 : Int32)), .val (.int (Int32.ofNat n)), .val (.ref t0), .unset, .unset] []))
  refine own_st (fun tt zk => XS.aloadN X37.here hx rfl (hb hby d7_4) rfl rfl zk) ?_
  show OGo p e below s _ _ (T37.setTop (mkF m 5 #[.val (.ref a1), .val (.int (0 : Int32)), .val (.int (Int32.ofNat n)), .val (.ref t0), .unset, .unset] [(.ref a1)]))
  refine own_st (fun tt zk => XS.iloadN X37.here hx rfl (hb hby d7_5) rfl zk) ?_
  show OGo p e below s _ _ (T37.setTop (mkF m 6 #[.val (.ref a1), .val (.int (0 : Int32)), .val (.int (Int32.ofNat n)), .val (.ref t0), .unset, .unset] [(.int (0 : Int32)), (.ref a1)]))
  refine own_st (fun tt zk => XS.aloadN X37.here hx rfl (hb hby d7_6) rfl rfl zk) ?_
  show OGo p e below s _ _ (T37.setTop (mkF m 7 #[.val (.ref a1), .val (.int (0 : Int32)), .val (.int (Int32.ofNat n)), .val (.ref t0), .unset, .unset] [(.ref t0), (.int (0 : Int32)), (.ref a1)]))
  refine own_st (fun tt zk => XS.iconst X37.here hx rfl (hb hby d7_7) zk) ?_
  show OGo p e below s _ _ (T37.setTop (mkF m 8 #[.val (.ref a1), .val (.int (0 : Int32)), .val (.int (Int32.ofNat n)), .val (.ref t0), .unset, .unset] [(.int (0 : Int32)), (.ref t0), (.int (0 : Int32)), (.ref a1)]))
  refine own_st (fun tt zk => XS.iloadN X37.here hx rfl (hb hby d7_8) rfl zk) ?_
  show OGo p e below s _ _ (T37.setTop (mkF m 9 #[.val (.ref a1), .val (.int (0 : Int32)), .val (.int (Int32.ofNat n)), .val (.ref t0), .unset, .unset] [(.int (Int32.ofNat n)), (.int (0 : Int32)), (.ref t0), (.int (0 : Int32)), (.ref a1)]))
  obtain ⟨_, T38, Lc38, X38, hQ38, st38⟩ := own_callS X37 hx hZ (y := (⟨"java/lang/StringUTF16", "compress", "([CI[BII)I"⟩ : MethodName)) (W := 0) hown (hw _ (List.mem_of_getElem? (i := 41) rfl)) (hw _ (List.mem_of_getElem? (i := 42) rfl)) (hw _ (List.mem_of_getElem? (i := 39) rfl)) (hw _ (List.mem_of_getElem? (i := 43) rfl)) (by decide) (su1 l Z a0 hw a1 t0 n k cf (fun _ => defaultValue .byte) hp37 n0 Z0 old_t0 ne_a1_t0 A_a1 A_t0 (by omega) hk hc hck) (by decide) (by decide) (g := (mkF m 9 #[.val (.ref a1), .val (.int (0 : Int32)), .val (.int (Int32.ofNat n)), .val (.ref t0), .unset, .unset] [(.int (Int32.ofNat n)), (.int (0 : Int32)), (.ref t0), (.int (0 : Int32)), (.ref a1)])) rfl (by rw [hml]; rfl) (argsL := [(.ref a1), (.int (0 : Int32)), (.ref t0), (.int (0 : Int32)), (.int (Int32.ofNat n))]) (rest := []) (lenOf pd_0 rfl) rfl (by show 2 * 0 + _ ≤ _; exact Nat.le_of_eq rfl) (hb hby d7_9) rfl e37 (by decide) (by decide)
  obtain ⟨rfl, Nq38, Kq38, q38_0⟩ := hQ38
  have hpl_Kq38 : ∀ w ∈ [t0], ∃ c : Cell, hp37[w]? = some c ∧ c.vm.isStatics = false := (allS (own_pl_arr A_t0) all0)
  have Z0 := Nat.le_trans Z0 Kq38.1
  have K0 := K0.trans Kq38 (allS (Or.inr fr_t0) all0)
  have A_a1 := A_a1.keep Kq38 (ninS ne_a1_t0 nin0)
  have S__assertionsDisabled := own_sta_keep S__assertionsDisabled Kq38 hpl_Kq38
  have S_HI_BYTE_SHIFT := own_sta_keep S_HI_BYTE_SHIFT Kq38 hpl_Kq38
  have S_LO_BYTE_SHIFT := own_sta_keep S_LO_BYTE_SHIFT Kq38 hpl_Kq38
  have Nr38 := Fr.app N0 Nq38
  have A_t0 := q38_0
  refine own_st st38 ?_
  show OGo p e below s _ _ (T38.setTop (mkF m 12 #[.val (.ref a1), .val (.int (0 : Int32)), .val (.int (Int32.ofNat n)), .val (.ref t0), .unset, .unset] [(.int (Int32.ofNat k))]))
  refine own_st (fun tt zk => XS.istore X38.here hx rfl (hb hby d7_12) rfl (l' := #[.val (.ref a1), .val (.int (0 : Int32)), .val (.int (Int32.ofNat n)), .val (.ref t0), .val (.int (Int32.ofNat k)), .unset]) rfl zk) ?_
  show OGo p e below s _ _ (T38.setTop (mkF m 14 #[.val (.ref a1), .val (.int (0 : Int32)), .val (.int (Int32.ofNat n)), .val (.ref t0), .val (.int (Int32.ofNat k)), .unset] []))
  refine own_st (fun tt zk => XS.iload X38.here hx rfl (hb hby d7_14) rfl zk) ?_
  show OGo p e below s _ _ (T38.setTop (mkF m 16 #[.val (.ref a1), .val (.int (0 : Int32)), .val (.int (Int32.ofNat n)), .val (.ref t0), .val (.int (Int32.ofNat k)), .unset] [(.int (Int32.ofNat k))]))
  refine own_st (fun tt zk => XS.iloadN X38.here hx rfl (hb hby d7_16) rfl zk) ?_
  show OGo p e below s _ _ (T38.setTop (mkF m 17 #[.val (.ref a1), .val (.int (0 : Int32)), .val (.int (Int32.ofNat n)), .val (.ref t0), .val (.int (Int32.ofNat k)), .unset] [(.int (Int32.ofNat n)), (.int (Int32.ofNat k))]))
  refine own_st (fun tt zk => XS.icmpNo X38.here hx rfl (hb hby d7_17) rfl (feq ((own_ofne (by omega) (by omega) (by omega)))).1 zk) ?_
  show OGo p e below s _ _ (T38.setTop (mkF m 20 #[.val (.ref a1), .val (.int (0 : Int32)), .val (.int (Int32.ofNat n)), .val (.ref t0), .val (.int (Int32.ofNat k)), .unset] []))
  refine own_st (fun tt zk => XS.aloadN X38.here hx rfl (hb hby d7_20) rfl rfl zk) ?_
  show OGo p e below s _ _ (T38.setTop (mkF m 21 #[.val (.ref a1), .val (.int (0 : Int32)), .val (.int (Int32.ofNat n)), .val (.ref t0), .val (.int (Int32.ofNat k)), .unset] [(.ref a1)]))
  refine own_st (fun tt zk => XS.iloadN X38.here hx rfl (hb hby d7_21) rfl zk) ?_
  show OGo p e below s _ _ (T38.setTop (mkF m 22 #[.val (.ref a1), .val (.int (0 : Int32)), .val (.int (Int32.ofNat n)), .val (.ref t0), .val (.int (Int32.ofNat k)), .unset] [(.int (0 : Int32)), (.ref a1)]))
  refine own_st (fun tt zk => XS.iloadN X38.here hx rfl (hb hby d7_22) rfl zk) ?_
  show OGo p e below s _ _ (T38.setTop (mkF m 23 #[.val (.ref a1), .val (.int (0 : Int32)), .val (.int (Int32.ofNat n)), .val (.ref t0), .val (.int (Int32.ofNat k)), .unset] [(.int (Int32.ofNat n)), (.int (0 : Int32)), (.ref a1)]))
  obtain ⟨_, T39, Lc39, X39, hQ39, st39⟩ := own_callS X38 hx hZ (y := (⟨"java/lang/StringUTF16", "toBytes", "([CII)[B"⟩ : MethodName)) (W := 0) hown (hw _ (List.mem_of_getElem? (i := 73) rfl)) (hw _ (List.mem_of_getElem? (i := 74) rfl)) (hw _ (List.mem_of_getElem? (i := 39) rfl)) (hw _ (List.mem_of_getElem? (i := 75) rfl)) (by decide) (su6 l Z a0 hw a1 n cf T38.heap n0 Z0 A_a1 S__assertionsDisabled S_HI_BYTE_SHIFT S_LO_BYTE_SHIFT hn) (by decide) (by decide) (g := (mkF m 23 #[.val (.ref a1), .val (.int (0 : Int32)), .val (.int (Int32.ofNat n)), .val (.ref t0), .val (.int (Int32.ofNat k)), .unset] [(.int (Int32.ofNat n)), (.int (0 : Int32)), (.ref a1)])) rfl (by rw [hml]; rfl) (argsL := [(.ref a1), (.int (0 : Int32)), (.int (Int32.ofNat n))]) (rest := []) (lenOf pd_1 rfl) rfl (by show 2 * 0 + _ ≤ _; exact Nat.le_of_eq rfl) (hb hby d7_23) rfl rfl (by decide) (by decide)
  obtain ⟨t1, rfl, Nq39, Kq39, fq39_t1, q39_0⟩ := hQ39
  have ne_a1_t1 : a1 ≠ t1 := Nat.ne_of_lt (Nat.lt_of_lt_of_le A_a1.lt fq39_t1)
  have old_t1 : n0 ≤ t1 := Nat.le_trans Z0 fq39_t1
  have fr_t1 : h0.size ≤ t1 := Nat.le_trans K0.1 fq39_t1
  have hpl_Kq39 : ∀ w ∈ ([] : List Addr), ∃ c : Cell, T38.heap[w]? = some c ∧ c.vm.isStatics = false := all0
  have Z0 := Nat.le_trans Z0 Kq39.1
  have K0 := K0.trans Kq39 all0
  have A_a1 := A_a1.keep Kq39 nin0
  have S__assertionsDisabled := own_sta_keep S__assertionsDisabled Kq39 hpl_Kq39
  have S_HI_BYTE_SHIFT := own_sta_keep S_HI_BYTE_SHIFT Kq39 hpl_Kq39
  have S_LO_BYTE_SHIFT := own_sta_keep S_LO_BYTE_SHIFT Kq39 hpl_Kq39
  have Nr39 := Fr.app Nr38 Nq39
  have A_t1 := q39_0
  refine own_st st39 ?_
  show OGo p e below s _ _ (T39.setTop (mkF m 26 #[.val (.ref a1), .val (.int (0 : Int32)), .val (.int (Int32.ofNat n)), .val (.ref t0), .val (.int (Int32.ofNat k)), .unset] [(.ref t1)]))
  refine own_st (fun tt zk => XS.astore X39.here hx rfl (hb hby d7_26) rfl rfl (l' := #[.val (.ref a1), .val (.int (0 : Int32)), .val (.int (Int32.ofNat n)), .val (.ref t0), .val (.int (Int32.ofNat k)), .val (.ref t1)]) rfl zk) ?_
  show OGo p e below s _ _ (T39.setTop (mkF m 28 #[.val (.ref a1), .val (.int (0 : Int32)), .val (.int (Int32.ofNat n)), .val (.ref t0), .val (.int (Int32.ofNat k)), .val (.ref t1)] []))
  refine own_st (fun tt zk => XS.aload X39.here hx rfl (hb hby d7_28) rfl rfl zk) ?_
  show OGo p e below s _ _ (T39.setTop (mkF m 30 #[.val (.ref a1), .val (.int (0 : Int32)), .val (.int (Int32.ofNat n)), .val (.ref t0), .val (.int (Int32.ofNat k)), .val (.ref t1)] [(.ref t1)]))
  refine own_st (fun tt zk => XS.iload X39.here hx rfl (hb hby d7_30) rfl zk) ?_
  show OGo p e below s _ _ (T39.setTop (mkF m 32 #[.val (.ref a1), .val (.int (0 : Int32)), .val (.int (Int32.ofNat n)), .val (.ref t0), .val (.int (Int32.ofNat k)), .val (.ref t1)] [(.int (Int32.ofNat k)), (.ref t1)]))
  obtain ⟨T40, X40, e40, st40⟩ := own_callSP X39 hx hZ (y := (⟨"java/lang/StringUTF16", "getChar", "([BI)C"⟩ : MethodName)) (W := 0) hown (hw _ (List.mem_of_getElem? (i := 89) rfl)) (hw _ (List.mem_of_getElem? (i := 90) rfl)) (hw _ (List.mem_of_getElem? (i := 39) rfl)) (hw _ (List.mem_of_getElem? (i := 91) rfl)) (by decide) (su5 l Z a0 hw t1 k (2 * n) (cf k) (own_ub cf) T39.heap A_t1 S__assertionsDisabled S_HI_BYTE_SHIFT S_LO_BYTE_SHIFT (by omega) (by omega) (own_ub0 cf k) (own_ub1 cf k) (hbd k hk).1 (hbd k hk).2) (by decide) (by decide) (g := (mkF m 32 #[.val (.ref a1), .val (.int (0 : Int32)), .val (.int (Int32.ofNat n)), .val (.ref t0), .val (.int (Int32.ofNat k)), .val (.ref t1)] [(.int (Int32.ofNat k)), (.ref t1)])) rfl (by rw [hml]; rfl) (argsL := [(.ref t1), (.int (Int32.ofNat k))]) (rest := []) (lenOf pd_8 rfl) rfl (by show 2 * 0 + _ ≤ _; exact Nat.le_of_eq rfl) (hb hby d7_32) rfl rfl (by decide) (by decide)
  refine own_st st40 ?_
  show OGo p e below s _ _ (T40.setTop (mkF m 35 #[.val (.ref a1), .val (.int (0 : Int32)), .val (.int (Int32.ofNat n)), .val (.ref t0), .val (.int (Int32.ofNat k)), .val (.ref t1)] [(.int (cf k))]))
  refine own_st (fun tt zk => XS.sipush X40.here hx rfl (hb hby d7_35) zk) ?_
  show OGo p e below s _ _ (T40.setTop (mkF m 38 #[.val (.ref a1), .val (.int (0 : Int32)), .val (.int (Int32.ofNat n)), .val (.ref t0), .val (.int (Int32.ofNat k)), .val (.ref t1)] [(.int (255 : Int32)), (.int (cf k))]))
  refine own_st (fun tt zk => XS.icmpYes X40.here hx rfl (pc0 := 38) (pc' := 54) rfl (hb hby d7_38) rfl (tlt (hck)).2.2.1 (by decide) (by decide) zk) ?_
  show OGo p e below s _ _ (T40.setTop (mkF m 54 #[.val (.ref a1), .val (.int (0 : Int32)), .val (.int (Int32.ofNat n)), .val (.ref t0), .val (.int (Int32.ofNat k)), .val (.ref t1)] []))
  refine own_st (fun tt zk => XS.aload X40.here hx rfl (hb hby d7_54) rfl rfl zk) ?_
  show OGo p e below s _ _ (T40.setTop (mkF m 56 #[.val (.ref a1), .val (.int (0 : Int32)), .val (.int (Int32.ofNat n)), .val (.ref t0), .val (.int (Int32.ofNat k)), .val (.ref t1)] [(.ref t1)]))
  exact own_retA X40 hx hlk hret rfl rfl (hb hby d7_56) (by decide) (by decide) (⟨t1, rfl, Nr39, (by rw [e40]; exact K0), fr_t1, (by rw [e40]; exact A_t1)⟩)

set_option maxRecDepth 65536 in
set_option maxHeartbeats 40000000 in
theorem su8 (l : Launch) (Z : State) (a0 : Array Value) (hw : ∀ d ∈ tables_1, d.before a0 Z = true) (a1 : Addr) (n : Nat) (gf : Nat → Value) (h0 : Heap) (A_a1 : OAr Z h0 a1 .byte (2 * n) gf) (h1 : 0 < n) (hn : n ≤ 3) :
    OPure l Z (⟨"java/lang/StringUTF16", "coderFromArrayLen", "([BI)B"⟩ : MethodName) jdk_52_method_15_code 2 (some .byte) [] ({ frames := 0, cells := 0, slots := 0, locals := 0 } : Room) #[(.ref a1), (.int (Int32.ofNat n))] h0 (some (.int (1 : Int32))) := by
  refine own_body (plainFor_of_name pn_java_lang_StringUTF16) (fun m => ef_9_RI m a1 (Int32.ofNat n)) ?_
  intro p e s m below meth c T0 hx hby hml hown hnm hret hlk hZ X0 e0
  have hown : s.vm.findClass "java/lang/StringUTF16" = some m.cls := hown
  have hml : c.maxLocals = 2 := hml
  show OGo p e below s _ _ (T0.setTop (mkF m 0 #[.val (.ref a1), .val (.int (Int32.ofNat n))] []))
  refine own_st (fun tt zk => XS.iloadN X0.here hx rfl (hb hby d9_0) rfl zk) ?_
  show OGo p e below s _ _ (T0.setTop (mkF m 1 #[.val (.ref a1), .val (.int (Int32.ofNat n))] [(.int (Int32.ofNat n))]))
  refine own_st (fun tt zk => XS.aloadN X0.here hx rfl (hb hby d9_1) rfl rfl zk) ?_
  show OGo p e below s _ _ (T0.setTop (mkF m 2 #[.val (.ref a1), .val (.int (Int32.ofNat n))] [(.ref a1), (.int (Int32.ofNat n))]))
  obtain ⟨cl41, Ar41, Sz41, -⟩ := id A_a1
  refine own_st (X0.arraylength hx (by rw [e0]; exact Ar41.1) (State.isArrayOf_alike hZ.alike Ar41.2.1) (g := (mkF m 2 #[.val (.ref a1), .val (.int (Int32.ofNat n))] [(.ref a1), (.int (Int32.ofNat n))])) rfl rfl (hb hby d9_2)) ?_
  rw [Sz41, own_len (2 * n)]
  show OGo p e below s _ _ (T0.setTop (mkF m 3 #[.val (.ref a1), .val (.int (Int32.ofNat n))] [(.int (Int32.ofNat (2 * n))), (.int (Int32.ofNat n))]))
  refine own_st (fun tt zk => XS.isub X0.here hx rfl (hb hby d9_3) rfl zk) ?_
  show OGo p e below s _ _ (T0.setTop (mkF m 4 #[.val (.ref a1), .val (.int (Int32.ofNat n))] [(.int ((Int32.ofNat n) - (Int32.ofNat (2 * n))))]))
  refine own_st (fun tt zk => XS.bipush X0.here hx rfl (hb hby d9_4) zk) ?_
  show OGo p e below s _ _ (T0.setTop (mkF m 6 #[.val (.ref a1), .val (.int (Int32.ofNat n))] [(.int (31 : Int32)), (.int ((Int32.ofNat n) - (Int32.ofNat (2 * n))))]))
  refine own_st (fun tt zk => XS.iushr X0.here hx rfl (hb hby d9_6) rfl zk) ?_
  show OGo p e below s _ _ (T0.setTop (mkF m 7 #[.val (.ref a1), .val (.int (Int32.ofNat n))] [(.int ((((Int32.ofNat n) - (Int32.ofNat (2 * n))).toUInt32 >>> ((31 : Int32) &&& 31).toUInt32).toInt32))]))
  refine own_st (fun tt zk => XS.i2b X0.here hx rfl (hb hby d9_7) rfl zk) ?_
  show OGo p e below s _ _ (T0.setTop (mkF m 8 #[.val (.ref a1), .val (.int (Int32.ofNat n))] [(.int ((((Int32.ofNat n) - (Int32.ofNat (2 * n))).toUInt32 >>> ((31 : Int32) &&& 31).toUInt32).toInt32).toInt8.toInt32)]))
  rw [own_cfaU n h1 (by omega)]
  exact own_retN X0 hx hlk (t := .byte) hret (by simp) (hb hby d9_8) (by decide) (by decide) (⟨rfl, rfl, e0⟩)

set_option maxRecDepth 65536 in
set_option maxHeartbeats 40000000 in
theorem su9 (l : Launch) (Z : State) (a0 : Array Value) (hw : ∀ d ∈ tables_1, d.before a0 Z = true) (a1 : Addr) (a2 : Addr) (n : Nat) (k : Nat) (cf : Nat → Int32) (cs : Int32) (h0 : Heap) (n0 : Nat) (Z0 : n0 ≤ h0.size) (old_a1 : n0 ≤ a1) (ne_a2_a1 : a2 ≠ a1) (E_a1 : Exa Z h0 a1 "java/lang/String") (F_coder_a1 : Fld Z h0 a1 "java/lang/String" "coder" "B" (.int (0 : Int32))) (F_value_a1 : Fld Z h0 a1 "java/lang/String" "value" "[B" .null) (A_a2 : OAr Z h0 a2 .char n (fun j => .int (cf j))) (S_COMPACT_STRINGS : Sta Z h0 "java/lang/String" "COMPACT_STRINGS" "Z" (.int cs)) (S__assertionsDisabled : Sta Z h0 "java/lang/StringUTF16" "$assertionsDisabled" "Z" (.int (1 : Int32))) (S_HI_BYTE_SHIFT : Sta Z h0 "java/lang/StringUTF16" "HI_BYTE_SHIFT" "I" (.int (0 : Int32))) (S_LO_BYTE_SHIFT : Sta Z h0 "java/lang/StringUTF16" "LO_BYTE_SHIFT" "I" (.int (8 : Int32))) (hn : n ≤ 3) (hk : k < n) (hc : ∀ j, j < k → ¬ (255 : Int32) < cf j) (hck : (255 : Int32) < cf k) (hbd : ∀ j, j < n → 0 ≤ (cf j).toInt ∧ (cf j).toInt < 65536) (hcs : ¬ cs = (0 : Int32)) :
    OMet l Z (⟨"java/lang/String", "<init>", "([CIILjava/lang/Void;)V"⟩ : MethodName) jdk_42_method_149_code 6 none [] ({ frames := 4, cells := 2, slots := 9, locals := 57 } : Room) #[(.ref a1), (.ref a2), (.int (0 : Int32)), (.int (Int32.ofNat n)), .null] h0 (fun v h' L => ∃ t1 : Addr, v = none ∧ Fr n0 L ∧ Keep h0 h' [a1] ∧ h0.size ≤ t1 ∧ Exa Z h' a1 "java/lang/String" ∧ Fld Z h' a1 "java/lang/String" "coder" "B" (.int (1 : Int32)) ∧ Fld Z h' a1 "java/lang/String" "value" "[B" (.ref t1) ∧ OAr Z h' t1 .byte (2 * n) (own_ub cf)) := by
  refine own_body (plainFor_of_name pn_java_lang_String) (fun m => ef_2_RRII0 m a1 a2 (0 : Int32) (Int32.ofNat n)) ?_
  intro p e s m below meth c T0 hx hby hml hown hnm hret hlk hZ X0 e0
  have hown : s.vm.findClass "java/lang/String" = some m.cls := hown
  have hml : c.maxLocals = 6 := hml
  have N0 := Fr.nil n0
  have K0 := Keep.refl h0 [a1]
  show OGo p e below s _ _ (T0.setTop (mkF m 0 #[.val (.ref a1), .val (.ref a2), .val (.int (0 : Int32)), .val (.int (Int32.ofNat n)), .val .null, .unset] []))
  refine own_st (fun tt zk => XS.aloadN X0.here hx rfl (hb hby d2_0) rfl rfl zk) ?_
  show OGo p e below s _ _ (T0.setTop (mkF m 1 #[.val (.ref a1), .val (.ref a2), .val (.int (0 : Int32)), .val (.int (Int32.ofNat n)), .val .null, .unset] [(.ref a1)]))
  obtain ⟨T42, X42, e42, st42⟩ := initO X0 hx hZ hown (hw _ (List.mem_of_getElem? (i := 11) rfl)) (hw _ (List.mem_of_getElem? (i := 12) rfl)) (hw _ (List.mem_of_getElem? (i := 13) rfl)) e0 (g := (mkF m 1 #[.val (.ref a1), .val (.ref a2), .val (.int (0 : Int32)), .val (.int (Int32.ofNat n)), .val .null, .unset] [(.ref a1)])) rfl (by rw [hml]; rfl) rfl (hb hby d2_1) (by decide) (W := 0) (by show 2 * 0 + _ ≤ _; exact Nat.le_of_eq rfl) (by decide)
  refine own_st st42 ?_
  show OGo p e below s _ _ (T42.setTop (mkF m 4 #[.val (.ref a1), .val (.ref a2), .val (.int (0 : Int32)), .val (.int (Int32.ofNat n)), .val .null, .unset] []))
  refine own_st (fun tt zk => XS.iloadN X42.here hx rfl (hb hby d2_4) rfl zk) ?_
  show OGo p e below s _ _ (T42.setTop (mkF m 5 #[.val (.ref a1), .val (.ref a2), .val (.int (0 : Int32)), .val (.int (Int32.ofNat n)), .val .null, .unset] [(.int (Int32.ofNat n))]))
  refine own_st (fun tt zk => XS.ifYes X42.here hx rfl (pc0 := 5) (pc' := 27) rfl (hb hby d2_5) rfl ((if0 _ _).trans (feq ((own_nz (by omega) (by omega)))).2) (by decide) (by decide) zk) ?_
  show OGo p e below s _ _ (T42.setTop (mkF m 27 #[.val (.ref a1), .val (.ref a2), .val (.int (0 : Int32)), .val (.int (Int32.ofNat n)), .val .null, .unset] []))
  obtain ⟨T43, X43, e43, st43⟩ := getS2 X42 hx hZ hown (host := "") (Or.inl (hw _ (List.mem_of_getElem? (i := 36) rfl))) Via.refl e42 S_COMPACT_STRINGS (g := (mkF m 27 #[.val (.ref a1), .val (.ref a2), .val (.int (0 : Int32)), .val (.int (Int32.ofNat n)), .val .null, .unset] [])) rfl (hb hby d2_27)
  refine own_st st43 ?_
  show OGo p e below s _ _ (T43.setTop (mkF m 30 #[.val (.ref a1), .val (.ref a2), .val (.int (0 : Int32)), .val (.int (Int32.ofNat n)), .val .null, .unset] [(.int cs)]))
  refine own_st (fun tt zk => XS.ifNo X43.here hx rfl (hb hby d2_30) rfl ((if0 _ _).trans (feq (hcs)).1) zk) ?_
  show OGo p e below s _ _ (T43.setTop (mkF m 33 #[.val (.ref a1), .val (.ref a2), .val (.int (0 : Int32)), .val (.int (Int32.ofNat n)), .val .null, .unset] []))
  refine own_st (fun tt zk => XS.aloadN X43.here hx rfl (hb hby d2_33) rfl rfl zk) ?_
  show OGo p e below s _ _ (T43.setTop (mkF m 34 #[.val (.ref a1), .val (.ref a2), .val (.int (0 : Int32)), .val (.int (Int32.ofNat n)), .val .null, .unset] [(.ref a2)]))
  refine own_st (fun tt zk => XS.iloadN X43.here hx rfl (hb hby d2_34) rfl zk) ?_
  show OGo p e below s _ _ (T43.setTop (mkF m 35 #[.val (.ref a1), .val (.ref a2), .val (.int (0 : Int32)), .val (.int (Int32.ofNat n)), .val .null, .unset] [(.int (0 : Int32)), (.ref a2)]))
  refine own_st (fun tt zk => XS.iloadN X43.here hx rfl (hb hby d2_35) rfl zk) ?_
  show OGo p e below s _ _ (T43.setTop (mkF m 36 #[.val (.ref a1), .val (.ref a2), .val (.int (0 : Int32)), .val (.int (Int32.ofNat n)), .val .null, .unset] [(.int (Int32.ofNat n)), (.int (0 : Int32)), (.ref a2)]))
  obtain ⟨_, T44, Lc44, X44, hQ44, st44⟩ := own_callS X43 hx hZ (y := (⟨"java/lang/StringUTF16", "compress", "([CII)[B"⟩ : MethodName)) (W := 0) hown (hw _ (List.mem_of_getElem? (i := 37) rfl)) (hw _ (List.mem_of_getElem? (i := 38) rfl)) (hw _ (List.mem_of_getElem? (i := 39) rfl)) (hw _ (List.mem_of_getElem? (i := 40) rfl)) (by decide) (su7 l Z a0 hw a2 n k cf h0 n0 Z0 A_a2 S__assertionsDisabled S_HI_BYTE_SHIFT S_LO_BYTE_SHIFT hn hk hc hck hbd) (by decide) (by decide) (g := (mkF m 36 #[.val (.ref a1), .val (.ref a2), .val (.int (0 : Int32)), .val (.int (Int32.ofNat n)), .val .null, .unset] [(.int (Int32.ofNat n)), (.int (0 : Int32)), (.ref a2)])) rfl (by rw [hml]; rfl) (argsL := [(.ref a2), (.int (0 : Int32)), (.int (Int32.ofNat n))]) (rest := []) (lenOf pd_1 rfl) rfl (by show 2 * 0 + _ ≤ _; exact Nat.le_of_eq rfl) (hb hby d2_36) rfl e43 (by decide) (by decide)
  obtain ⟨t1, rfl, Nq44, Kq44, fq44_t1, q44_0⟩ := hQ44
  have ne_a1_t1 : a1 ≠ t1 := Nat.ne_of_lt (Nat.lt_of_lt_of_le E_a1.lt fq44_t1)
  have ne_a2_t1 : a2 ≠ t1 := Nat.ne_of_lt (Nat.lt_of_lt_of_le A_a2.lt fq44_t1)
  have old_t1 : n0 ≤ t1 := Nat.le_trans Z0 fq44_t1
  have fr_t1 : h0.size ≤ t1 := Nat.le_trans K0.1 fq44_t1
  have hpl_Kq44 : ∀ w ∈ ([] : List Addr), ∃ c : Cell, h0[w]? = some c ∧ c.vm.isStatics = false := all0
  have Z0 := Nat.le_trans Z0 Kq44.1
  have K0 := K0.trans Kq44 all0
  have E_a1 := E_a1.keep Kq44
  have F_coder_a1 := F_coder_a1.keep Kq44 nin0
  have F_value_a1 := F_value_a1.keep Kq44 nin0
  have A_a2 := A_a2.keep Kq44 nin0
  have S_COMPACT_STRINGS := own_sta_keep S_COMPACT_STRINGS Kq44 hpl_Kq44
  have S__assertionsDisabled := own_sta_keep S__assertionsDisabled Kq44 hpl_Kq44
  have S_HI_BYTE_SHIFT := own_sta_keep S_HI_BYTE_SHIFT Kq44 hpl_Kq44
  have S_LO_BYTE_SHIFT := own_sta_keep S_LO_BYTE_SHIFT Kq44 hpl_Kq44
  have Nr44 := Fr.app N0 Nq44
  have A_t1 := q44_0
  refine own_st st44 ?_
  show OGo p e below s _ _ (T44.setTop (mkF m 39 #[.val (.ref a1), .val (.ref a2), .val (.int (0 : Int32)), .val (.int (Int32.ofNat n)), .val .null, .unset] [(.ref t1)]))
  refine own_st (fun tt zk => XS.astore X44.here hx rfl (hb hby d2_39) rfl rfl (l' := #[.val (.ref a1), .val (.ref a2), .val (.int (0 : Int32)), .val (.int (Int32.ofNat n)), .val .null, .val (.ref t1)]) rfl zk) ?_
  show OGo p e below s _ _ (T44.setTop (mkF m 41 #[.val (.ref a1), .val (.ref a2), .val (.int (0 : Int32)), .val (.int (Int32.ofNat n)), .val .null, .val (.ref t1)] []))
  refine own_st (fun tt zk => XS.aloadN X44.here hx rfl (hb hby d2_41) rfl rfl zk) ?_
  show OGo p e below s _ _ (T44.setTop (mkF m 42 #[.val (.ref a1), .val (.ref a2), .val (.int (0 : Int32)), .val (.int (Int32.ofNat n)), .val .null, .val (.ref t1)] [(.ref a1)]))
  refine own_st (fun tt zk => XS.aload X44.here hx rfl (hb hby d2_42) rfl rfl zk) ?_
  show OGo p e below s _ _ (T44.setTop (mkF m 44 #[.val (.ref a1), .val (.ref a2), .val (.int (0 : Int32)), .val (.int (Int32.ofNat n)), .val .null, .val (.ref t1)] [(.ref t1), (.ref a1)]))
  refine own_st (fun tt zk => XS.iloadN X44.here hx rfl (hb hby d2_44) rfl zk) ?_
  show OGo p e below s _ _ (T44.setTop (mkF m 45 #[.val (.ref a1), .val (.ref a2), .val (.int (0 : Int32)), .val (.int (Int32.ofNat n)), .val .null, .val (.ref t1)] [(.int (Int32.ofNat n)), (.ref t1), (.ref a1)]))
  obtain ⟨T45, X45, e45, st45⟩ := own_callSP X44 hx hZ (y := (⟨"java/lang/StringUTF16", "coderFromArrayLen", "([BI)B"⟩ : MethodName)) (W := 1) hown (hw _ (List.mem_of_getElem? (i := 44) rfl)) (hw _ (List.mem_of_getElem? (i := 45) rfl)) (hw _ (List.mem_of_getElem? (i := 39) rfl)) (hw _ (List.mem_of_getElem? (i := 46) rfl)) (by decide) (su8 l Z a0 hw t1 n (own_ub cf) T44.heap A_t1 (by omega) hn) (by decide) (by decide) (g := (mkF m 45 #[.val (.ref a1), .val (.ref a2), .val (.int (0 : Int32)), .val (.int (Int32.ofNat n)), .val .null, .val (.ref t1)] [(.int (Int32.ofNat n)), (.ref t1), (.ref a1)])) rfl (by rw [hml]; rfl) (argsL := [(.ref t1), (.int (Int32.ofNat n))]) (rest := [(.ref a1)]) (lenOf pd_2 rfl) rfl (by show 2 * 0 + _ ≤ _; exact Nat.le_of_eq rfl) (hb hby d2_45) rfl rfl (by decide) (by decide)
  refine own_st st45 ?_
  show OGo p e below s _ _ (T45.setTop (mkF m 48 #[.val (.ref a1), .val (.ref a2), .val (.int (0 : Int32)), .val (.int (Int32.ofNat n)), .val .null, .val (.ref t1)] [(.int (1 : Int32)), (.ref a1)]))
  obtain ⟨T46, hp46, X46, e46, Ww46, st46⟩ := putFN X45 hx hZ hown (hw _ (List.mem_of_getElem? (i := 21) rfl)) Via.refl e45 F_coder_a1 E_a1 (Or.inr ⟨(hw _ (List.mem_of_getElem? (i := 17) rfl)), rfl, hnm⟩) (hw _ (List.mem_of_getElem? (i := 1) rfl)) (ty := .byte) (v' := (.int (1 : Int32))) (by decide) rfl (by decide) (g := (mkF m 48 #[.val (.ref a1), .val (.ref a2), .val (.int (0 : Int32)), .val (.int (Int32.ofNat n)), .val .null, .val (.ref t1)] [(.int (1 : Int32)), (.ref a1)])) rfl rfl (hb hby d2_48)
  have Nf46 := Fr.snoc X46 Nr44 old_a1
  have Z0 := Nat.le_trans Z0 (Keep.of_wr Ww46).1
  have K0 := K0.wr Ww46 (Or.inl (List.mem_of_getElem? (i := 0) rfl))
  have E_a1 := E_a1.wr Ww46
  have F_coder_a1 := F_coder_a1.same Ww46
  have F_value_a1 := F_value_a1.other Ww46 (Or.inr (slot_ne (Or.inr (hw _ (List.mem_of_getElem? (i := 16) rfl))) (Or.inr (hw _ (List.mem_of_getElem? (i := 17) rfl))) (by decide) (t := (.array .byte)) (t' := .byte) (by decide) (by decide)))
  have A_a2 := A_a2.other Ww46 ne_a2_a1
  have S_COMPACT_STRINGS := S_COMPACT_STRINGS.wr Ww46
  have S__assertionsDisabled := S__assertionsDisabled.wr Ww46
  have S_HI_BYTE_SHIFT := S_HI_BYTE_SHIFT.wr Ww46
  have S_LO_BYTE_SHIFT := S_LO_BYTE_SHIFT.wr Ww46
  have A_t1 := A_t1.other Ww46 (Ne.symm ne_a1_t1)
  refine own_st st46 ?_
  show OGo p e below s _ _ (T46.setTop (mkF m 51 #[.val (.ref a1), .val (.ref a2), .val (.int (0 : Int32)), .val (.int (Int32.ofNat n)), .val .null, .val (.ref t1)] []))
  refine own_st (fun tt zk => XS.aloadN X46.here hx rfl (hb hby d2_51) rfl rfl zk) ?_
  show OGo p e below s _ _ (T46.setTop (mkF m 52 #[.val (.ref a1), .val (.ref a2), .val (.int (0 : Int32)), .val (.int (Int32.ofNat n)), .val .null, .val (.ref t1)] [(.ref a1)]))
  refine own_st (fun tt zk => XS.aload X46.here hx rfl (hb hby d2_52) rfl rfl zk) ?_
  show OGo p e below s _ _ (T46.setTop (mkF m 54 #[.val (.ref a1), .val (.ref a2), .val (.int (0 : Int32)), .val (.int (Int32.ofNat n)), .val .null, .val (.ref t1)] [(.ref t1), (.ref a1)]))
  obtain ⟨T47, hp47, X47, e47, Ww47, st47⟩ := putF X46 hx hZ hown (host := "") (Or.inl (hw _ (List.mem_of_getElem? (i := 20) rfl))) Via.refl e46 F_value_a1 E_a1 (Or.inr ⟨(hw _ (List.mem_of_getElem? (i := 16) rfl)), rfl, hnm⟩) (hw _ (List.mem_of_getElem? (i := 1) rfl)) (ty := (.array .byte)) (by decide) rfl rfl (g := (mkF m 54 #[.val (.ref a1), .val (.ref a2), .val (.int (0 : Int32)), .val (.int (Int32.ofNat n)), .val .null, .val (.ref t1)] [(.ref t1), (.ref a1)])) rfl rfl (hb hby d2_54)
  have Nf47 := Fr.snoc X47 Nf46 old_a1
  have Z0 := Nat.le_trans Z0 (Keep.of_wr Ww47).1
  have K0 := K0.wr Ww47 (Or.inl (List.mem_of_getElem? (i := 0) rfl))
  have E_a1 := E_a1.wr Ww47
  have F_coder_a1 := F_coder_a1.other Ww47 (Or.inr (slot_ne (Or.inr (hw _ (List.mem_of_getElem? (i := 17) rfl))) (Or.inr (hw _ (List.mem_of_getElem? (i := 16) rfl))) (by decide) (t := .byte) (t' := (.array .byte)) (by decide) (by decide)))
  have F_value_a1 := F_value_a1.same Ww47
  have A_a2 := A_a2.other Ww47 ne_a2_a1
  have S_COMPACT_STRINGS := S_COMPACT_STRINGS.wr Ww47
  have S__assertionsDisabled := S__assertionsDisabled.wr Ww47
  have S_HI_BYTE_SHIFT := S_HI_BYTE_SHIFT.wr Ww47
  have S_LO_BYTE_SHIFT := S_LO_BYTE_SHIFT.wr Ww47
  have A_t1 := A_t1.other Ww47 (Ne.symm ne_a1_t1)
  refine own_st st47 ?_
  show OGo p e below s _ _ (T47.setTop (mkF m 57 #[.val (.ref a1), .val (.ref a2), .val (.int (0 : Int32)), .val (.int (Int32.ofNat n)), .val .null, .val (.ref t1)] []))
  exact own_retV X47 hx hlk hret (hb hby d2_57) (by decide) (by decide) (⟨t1, rfl, Nf47, (by rw [e47]; exact K0), fr_t1, (by rw [e47]; exact E_a1), (by rw [e47]; exact F_coder_a1), (by rw [e47]; exact F_value_a1), (by rw [e47]; exact A_t1)⟩)

set_option maxRecDepth 65536 in
set_option maxHeartbeats 40000000 in
theorem su10 (l : Launch) (Z : State) (a0 : Array Value) (hw : ∀ d ∈ tables_1, d.before a0 Z = true) (a1 : Addr) (a2 : Addr) (n : Nat) (k : Nat) (cf : Nat → Int32) (cs : Int32) (h0 : Heap) (n0 : Nat) (Z0 : n0 ≤ h0.size) (old_a1 : n0 ≤ a1) (ne_a2_a1 : a2 ≠ a1) (E_a1 : Exa Z h0 a1 "java/lang/String") (F_coder_a1 : Fld Z h0 a1 "java/lang/String" "coder" "B" (.int (0 : Int32))) (F_value_a1 : Fld Z h0 a1 "java/lang/String" "value" "[B" .null) (A_a2 : OAr Z h0 a2 .char n (fun j => .int (cf j))) (S_COMPACT_STRINGS : Sta Z h0 "java/lang/String" "COMPACT_STRINGS" "Z" (.int cs)) (S__assertionsDisabled : Sta Z h0 "java/lang/StringUTF16" "$assertionsDisabled" "Z" (.int (1 : Int32))) (S_HI_BYTE_SHIFT : Sta Z h0 "java/lang/StringUTF16" "HI_BYTE_SHIFT" "I" (.int (0 : Int32))) (S_LO_BYTE_SHIFT : Sta Z h0 "java/lang/StringUTF16" "LO_BYTE_SHIFT" "I" (.int (8 : Int32))) (hn : n ≤ 3) (hk : k < n) (hc : ∀ j, j < k → ¬ (255 : Int32) < cf j) (hck : (255 : Int32) < cf k) (hbd : ∀ j, j < n → 0 ≤ (cf j).toInt ∧ (cf j).toInt < 65536) (hcs : ¬ cs = (0 : Int32)) :
    OMet l Z (⟨"java/lang/String", "<init>", "([C)V"⟩ : MethodName) jdk_42_method_3_code 2 none [] ({ frames := 5, cells := 2, slots := 9, locals := 74 } : Room) #[(.ref a1), (.ref a2)] h0 (fun v h' L => ∃ t1 : Addr, v = none ∧ Fr n0 L ∧ Keep h0 h' [a1] ∧ h0.size ≤ t1 ∧ Exa Z h' a1 "java/lang/String" ∧ Fld Z h' a1 "java/lang/String" "coder" "B" (.int (1 : Int32)) ∧ Fld Z h' a1 "java/lang/String" "value" "[B" (.ref t1) ∧ OAr Z h' t1 .byte (2 * n) (own_ub cf)) := by
  refine own_body (plainFor_of_name pn_java_lang_String) (fun m => ef_1_RR m a1 a2) ?_
  intro p e s m below meth c T0 hx hby hml hown hnm hret hlk hZ X0 e0
  have hown : s.vm.findClass "java/lang/String" = some m.cls := hown
  have hml : c.maxLocals = 2 := hml
  have N0 := Fr.nil n0
  have K0 := Keep.refl h0 [a1]
  show OGo p e below s _ _ (T0.setTop (mkF m 0 #[.val (.ref a1), .val (.ref a2)] []))
  refine own_st (fun tt zk => XS.aloadN X0.here hx rfl (hb hby d1_0) rfl rfl zk) ?_
  show OGo p e below s _ _ (T0.setTop (mkF m 1 #[.val (.ref a1), .val (.ref a2)] [(.ref a1)]))
  refine own_st (fun tt zk => XS.aloadN X0.here hx rfl (hb hby d1_1) rfl rfl zk) ?_
  show OGo p e below s _ _ (T0.setTop (mkF m 2 #[.val (.ref a1), .val (.ref a2)] [(.ref a2), (.ref a1)]))
  refine own_st (fun tt zk => XS.iconst X0.here hx rfl (hb hby d1_2) zk) ?_
  show OGo p e below s _ _ (T0.setTop (mkF m 3 #[.val (.ref a1), .val (.ref a2)] [(.int (0 : Int32)), (.ref a2), (.ref a1)]))
  refine own_st (fun tt zk => XS.aloadN X0.here hx rfl (hb hby d1_3) rfl rfl zk) ?_
  show OGo p e below s _ _ (T0.setTop (mkF m 4 #[.val (.ref a1), .val (.ref a2)] [(.ref a2), (.int (0 : Int32)), (.ref a2), (.ref a1)]))
  obtain ⟨cl48, Ar48, Sz48, -⟩ := id A_a2
  refine own_st (X0.arraylength hx (by rw [e0]; exact Ar48.1) (State.isArrayOf_alike hZ.alike Ar48.2.1) (g := (mkF m 4 #[.val (.ref a1), .val (.ref a2)] [(.ref a2), (.int (0 : Int32)), (.ref a2), (.ref a1)])) rfl rfl (hb hby d1_4)) ?_
  rw [Sz48, own_len n]
  show OGo p e below s _ _ (T0.setTop (mkF m 5 #[.val (.ref a1), .val (.ref a2)] [(.int (Int32.ofNat n)), (.int (0 : Int32)), (.ref a2), (.ref a1)]))
  refine own_st (fun tt zk => XS.aconstNull X0.here hx rfl (hb hby d1_5) zk) ?_
  show OGo p e below s _ _ (T0.setTop (mkF m 6 #[.val (.ref a1), .val (.ref a2)] [.null, (.int (Int32.ofNat n)), (.int (0 : Int32)), (.ref a2), (.ref a1)]))
  obtain ⟨_, T49, Lc49, X49, hQ49, st49⟩ := own_callI X0 hx hZ (y := (⟨"java/lang/String", "<init>", "([CIILjava/lang/Void;)V"⟩ : MethodName)) (W := 0) rfl hown (hw _ (List.mem_of_getElem? (i := 7) rfl)) (hw _ (List.mem_of_getElem? (i := 8) rfl)) (hw _ (List.mem_of_getElem? (i := 10) rfl)) (hw _ (List.mem_of_getElem? (i := 2) rfl)) (by decide) (su9 l Z a0 hw a1 a2 n k cf cs h0 n0 Z0 old_a1 ne_a2_a1 E_a1 F_coder_a1 F_value_a1 A_a2 S_COMPACT_STRINGS S__assertionsDisabled S_HI_BYTE_SHIFT S_LO_BYTE_SHIFT hn hk hc hck hbd hcs) (by decide) (by decide) (a := a1) (g := (mkF m 6 #[.val (.ref a1), .val (.ref a2)] [.null, (.int (Int32.ofNat n)), (.int (0 : Int32)), (.ref a2), (.ref a1)])) rfl (by rw [hml]; rfl) (argsL := [(.ref a2), (.int (0 : Int32)), (.int (Int32.ofNat n)), .null]) (rest := []) (lenOf pd_3 rfl) rfl (by show 2 * 0 + _ ≤ _; exact Nat.le_of_eq rfl) (hb hby d1_6) rfl e0 (by decide) (by decide)
  obtain ⟨t1, rfl, Nq49, Kq49, fq49_t1, q49_0, q49_1, q49_2, q49_3⟩ := hQ49
  have ne_a1_t1 : a1 ≠ t1 := Nat.ne_of_lt (Nat.lt_of_lt_of_le E_a1.lt fq49_t1)
  have ne_a2_t1 : a2 ≠ t1 := Nat.ne_of_lt (Nat.lt_of_lt_of_le A_a2.lt fq49_t1)
  have old_t1 : n0 ≤ t1 := Nat.le_trans Z0 fq49_t1
  have fr_t1 : h0.size ≤ t1 := Nat.le_trans K0.1 fq49_t1
  have hpl_Kq49 : ∀ w ∈ [a1], ∃ c : Cell, h0[w]? = some c ∧ c.vm.isStatics = false := (allS (own_pl_exa E_a1) all0)
  have Z0 := Nat.le_trans Z0 Kq49.1
  have K0 := K0.trans Kq49 (allS (Or.inl (List.mem_of_getElem? (i := 0) rfl)) all0)
  have A_a2 := A_a2.keep Kq49 (ninS ne_a2_a1 nin0)
  have S_COMPACT_STRINGS := own_sta_keep S_COMPACT_STRINGS Kq49 hpl_Kq49
  have S__assertionsDisabled := own_sta_keep S__assertionsDisabled Kq49 hpl_Kq49
  have S_HI_BYTE_SHIFT := own_sta_keep S_HI_BYTE_SHIFT Kq49 hpl_Kq49
  have S_LO_BYTE_SHIFT := own_sta_keep S_LO_BYTE_SHIFT Kq49 hpl_Kq49
  have Nr49 := Fr.app N0 Nq49
  have E_a1 := q49_0
  have F_coder_a1 := q49_1
  have F_value_a1 := q49_2
  have A_t1 := q49_3
  refine own_st st49 ?_
  show OGo p e below s _ _ (T49.setTop (mkF m 9 #[.val (.ref a1), .val (.ref a2)] []))
  exact own_retV X49 hx hlk hret (hb hby d1_9) (by decide) (by decide) (⟨t1, rfl, Nr49, K0, fr_t1, E_a1, F_coder_a1, F_value_a1, A_t1⟩)
theorem d15_0 : decode jdk_41_method_11_code 0 = .ok (.iload_n 0, 1) := by decide +kernel
theorem d15_1 : decode jdk_41_method_11_code 1 = .ok (.ifCond .lt 8, 3) := by decide +kernel
theorem d15_4 : decode jdk_41_method_11_code 4 = .ok (.iload_n 0, 1) := by decide +kernel
theorem d15_5 : decode jdk_41_method_11_code 5 = .ok (.iload_n 1, 1) := by decide +kernel
theorem d15_6 : decode jdk_41_method_11_code 6 = .ok (.if_icmp .lt 10, 3) := by decide +kernel
theorem d15_16 : decode jdk_41_method_11_code 16 = .ok (.iload_n 0, 1) := by decide +kernel
theorem d15_17 : decode jdk_41_method_11_code 17 = .ok (.ireturn, 1) := by decide +kernel
theorem pn_jdk_internal_util_Preconditions : plainName "jdk/internal/util/Preconditions" = true := by first | (simp [plainName, overriddenIn]; done) | decide +kernel
theorem ef_15_IIV (m : MethodId) (x0 : Int32) (x1 : Int32) (x2 : Value) (hx2 : x2.category = 1) : entryFrame m #[(.int x0), (.int x1), x2] 3 = mkF m 0 #[.val (.int x0), .val (.int x1), .val x2] [] := by cases x2 <;> first | (simp [entryFrame, mkF, argsToLocals, Value.category]; done) | rfl | (simp [Value.category] at hx2)
set_option maxRecDepth 65536 in
set_option maxHeartbeats 40000000 in
theorem sk1 (l : Launch) (Z : State) (a0 : Array Value) (hw : ∀ d ∈ tables_1, d.before a0 Z = true) (q1 : Int32) (q2 : Int32) (fm : Value) (h0 : Heap) (cat_fm : fm.category = 1) (ir_fm : fm.isRef = true) (p0 : ¬ q1 < (0 : Int32)) (p1 : q1 < q2) :
    OPure l Z (⟨"jdk/internal/util/Preconditions", "checkIndex", "(IILjava/util/function/BiFunction;)I"⟩ : MethodName) jdk_41_method_11_code 3 (some .int) [] ({ frames := 0, cells := 0, slots := 0, locals := 0 } : Room) #[(.int q1), (.int q2), fm] h0 (some (.int q1)) := by
  refine own_body (plainFor_of_name pn_jdk_internal_util_Preconditions) (fun m => ef_15_IIV m q1 q2 fm cat_fm) ?_
  intro p e s m below meth c T0 hx hby hml hown hnm hret hlk hZ X0 e0
  have hown : s.vm.findClass "jdk/internal/util/Preconditions" = some m.cls := hown
  have hml : c.maxLocals = 3 := hml
  show OGo p e below s _ _ (T0.setTop (mkF m 0 #[.val (.int q1), .val (.int q2), .val fm] []))
  refine own_st (fun tt zk => XS.iloadN X0.here hx rfl (hb hby d15_0) rfl zk) ?_
  show OGo p e below s _ _ (T0.setTop (mkF m 1 #[.val (.int q1), .val (.int q2), .val fm] [(.int q1)]))
  refine own_st (fun tt zk => XS.ifNo X0.here hx rfl (hb hby d15_1) rfl ((if0 _ _).trans (flt (p0)).1) zk) ?_
  show OGo p e below s _ _ (T0.setTop (mkF m 4 #[.val (.int q1), .val (.int q2), .val fm] []))
  refine own_st (fun tt zk => XS.iloadN X0.here hx rfl (hb hby d15_4) rfl zk) ?_
  show OGo p e below s _ _ (T0.setTop (mkF m 5 #[.val (.int q1), .val (.int q2), .val fm] [(.int q1)]))
  refine own_st (fun tt zk => XS.iloadN X0.here hx rfl (hb hby d15_5) rfl zk) ?_
  show OGo p e below s _ _ (T0.setTop (mkF m 6 #[.val (.int q1), .val (.int q2), .val fm] [(.int q2), (.int q1)]))
  refine own_st (fun tt zk => XS.icmpYes X0.here hx rfl (pc0 := 6) (pc' := 16) rfl (hb hby d15_6) rfl (tlt (p1)).1 (by decide) (by decide) zk) ?_
  show OGo p e below s _ _ (T0.setTop (mkF m 16 #[.val (.int q1), .val (.int q2), .val fm] []))
  refine own_st (fun tt zk => XS.iloadN X0.here hx rfl (hb hby d15_16) rfl zk) ?_
  show OGo p e below s _ _ (T0.setTop (mkF m 17 #[.val (.int q1), .val (.int q2), .val fm] [(.int q1)]))
  exact own_retI X0 hx hlk hret (hb hby d15_17) (by decide) (by decide) (⟨rfl, rfl, e0⟩)
theorem d14_0 : decode jdk_42_method_155_code 0 = .ok (.iload_n 0, 1) := by decide +kernel
theorem d14_1 : decode jdk_42_method_155_code 1 = .ok (.iload_n 1, 1) := by decide +kernel
theorem d14_2 : decode jdk_42_method_155_code 2 = .ok (.getstatic 1053, 3) := by decide +kernel
theorem pd_9 : parseMethodDescriptor "(IILjava/util/function/BiFunction;)I" = some ⟨[.int, .int, (.object "java/util/function/BiFunction")], some .int⟩ := by decide +kernel
theorem d14_5 : decode jdk_42_method_155_code 5 = .ok (.invokestatic 1059, 3) := by decide +kernel
theorem d14_8 : decode jdk_42_method_155_code 8 = .ok (.pop, 1) := by decide +kernel
theorem d14_9 : decode jdk_42_method_155_code 9 = .ok (.return_, 1) := by decide +kernel
theorem ef_14_II (m : MethodId) (x0 : Int32) (x1 : Int32) : entryFrame m #[(.int x0), (.int x1)] 2 = mkF m 0 #[.val (.int x0), .val (.int x1)] [] := by first | (simp [entryFrame, mkF, argsToLocals, Value.category]; done) | rfl
set_option maxRecDepth 65536 in
set_option maxHeartbeats 40000000 in
theorem sk2 (l : Launch) (Z : State) (a0 : Array Value) (hw : ∀ d ∈ tables_1, d.before a0 Z = true) (q1 : Int32) (q2 : Int32) (fm : Value) (h0 : Heap) (S_SIOOBE_FORMATTER : Sta Z h0 "jdk/internal/util/Preconditions" "SIOOBE_FORMATTER" "Ljava/util/function/BiFunction;" fm) (cat_fm : fm.category = 1) (ir_fm : fm.isRef = true) (p0 : ¬ q1 < (0 : Int32)) (p1 : q1 < q2) :
    OPure l Z (⟨"java/lang/String", "checkIndex", "(II)V"⟩ : MethodName) jdk_42_method_155_code 2 none [] ({ frames := 1, cells := 0, slots := 0, locals := 14 } : Room) #[(.int q1), (.int q2)] h0 (none) := by
  refine own_body (plainFor_of_name pn_java_lang_String) (fun m => ef_14_II m q1 q2) ?_
  intro p e s m below meth c T0 hx hby hml hown hnm hret hlk hZ X0 e0
  have hown : s.vm.findClass "java/lang/String" = some m.cls := hown
  have hml : c.maxLocals = 2 := hml
  show OGo p e below s _ _ (T0.setTop (mkF m 0 #[.val (.int q1), .val (.int q2)] []))
  refine own_st (fun tt zk => XS.iloadN X0.here hx rfl (hb hby d14_0) rfl zk) ?_
  show OGo p e below s _ _ (T0.setTop (mkF m 1 #[.val (.int q1), .val (.int q2)] [(.int q1)]))
  refine own_st (fun tt zk => XS.iloadN X0.here hx rfl (hb hby d14_1) rfl zk) ?_
  show OGo p e below s _ _ (T0.setTop (mkF m 2 #[.val (.int q1), .val (.int q2)] [(.int q2), (.int q1)]))
  obtain ⟨T50, X50, e50, st50⟩ := getS2 X0 hx hZ hown (host := "") (Or.inl (hw _ (List.mem_of_getElem? (i := 68) rfl))) Via.refl e0 S_SIOOBE_FORMATTER (g := (mkF m 2 #[.val (.int q1), .val (.int q2)] [(.int q2), (.int q1)])) rfl (hb hby d14_2)
  refine own_st st50 ?_
  show OGo p e below s _ _ (T50.setTop (mkF m 5 #[.val (.int q1), .val (.int q2)] [fm, (.int q2), (.int q1)]))
  obtain ⟨T51, X51, e51, st51⟩ := own_callSP X50 hx hZ (y := (⟨"jdk/internal/util/Preconditions", "checkIndex", "(IILjava/util/function/BiFunction;)I"⟩ : MethodName)) (W := 0) hown (hw _ (List.mem_of_getElem? (i := 70) rfl)) (hw _ (List.mem_of_getElem? (i := 71) rfl)) (hw _ (List.mem_of_getElem? (i := 69) rfl)) (hw _ (List.mem_of_getElem? (i := 72) rfl)) (by decide) (sk1 l Z a0 hw q1 q2 fm h0 cat_fm ir_fm p0 p1) (by decide) (by decide) (g := (mkF m 5 #[.val (.int q1), .val (.int q2)] [fm, (.int q2), (.int q1)])) rfl (by rw [hml]; rfl) (argsL := [(.int q1), (.int q2), fm]) (rest := []) (lenOf pd_9 rfl) rfl (by show 2 * 0 + _ ≤ _; exact Nat.le_of_eq rfl) (hb hby d14_5) rfl e50 (by decide) (by decide)
  refine own_st st51 ?_
  show OGo p e below s _ _ (T51.setTop (mkF m 8 #[.val (.int q1), .val (.int q2)] [(.int q1)]))
  refine own_st (fun tt zk => XS.pop X51.here hx rfl (hb hby d14_8) rfl rfl zk) ?_
  show OGo p e below s _ _ (T51.setTop (mkF m 9 #[.val (.int q1), .val (.int q2)] []))
  exact own_retV X51 hx hlk hret (hb hby d14_9) (by decide) (by decide) (⟨rfl, rfl, e51⟩)
theorem d12_0 : decode jdk_42_method_154_code 0 = .ok (.getstatic 38, 3) := by decide +kernel
theorem d12_3 : decode jdk_42_method_154_code 3 = .ok (.ifCond .eq 14, 3) := by decide +kernel
theorem d12_6 : decode jdk_42_method_154_code 6 = .ok (.aload_n 0, 1) := by decide +kernel
theorem d12_7 : decode jdk_42_method_154_code 7 = .ok (.getfield 15, 3) := by decide +kernel
theorem d12_10 : decode jdk_42_method_154_code 10 = .ok (.ifCond .ne 7, 3) := by decide +kernel
theorem d12_13 : decode jdk_42_method_154_code 13 = .ok (.iconst 1, 1) := by decide +kernel
theorem d12_14 : decode jdk_42_method_154_code 14 = .ok (.goto 4, 3) := by decide +kernel
theorem d12_18 : decode jdk_42_method_154_code 18 = .ok (.ireturn, 1) := by decide +kernel
theorem ef_12_R (m : MethodId) (x0 : Addr) : entryFrame m #[(.ref x0)] 1 = mkF m 0 #[.val (.ref x0)] [] := by first | (simp [entryFrame, mkF, argsToLocals, Value.category]; done) | rfl
set_option maxRecDepth 65536 in
set_option maxHeartbeats 40000000 in
theorem sk3_0 (l : Launch) (Z : State) (a0 : Array Value) (hw : ∀ d ∈ tables_1, d.before a0 Z = true) (a1 : Addr) (cs : Int32) (h0 : Heap) (F_coder_a1 : Fld Z h0 a1 "java/lang/String" "coder" "B" (.int (0 : Int32))) (S_COMPACT_STRINGS : Sta Z h0 "java/lang/String" "COMPACT_STRINGS" "Z" (.int cs)) (hcs : ¬ cs = (0 : Int32)) :
    OPure l Z (⟨"java/lang/String", "isLatin1", "()Z"⟩ : MethodName) jdk_42_method_154_code 1 (some .boolean) [] ({ frames := 0, cells := 0, slots := 0, locals := 0 } : Room) #[(.ref a1)] h0 (some (.int (1 : Int32))) := by
  refine own_body (plainFor_of_name pn_java_lang_String) (fun m => ef_12_R m a1) ?_
  intro p e s m below meth c T0 hx hby hml hown hnm hret hlk hZ X0 e0
  have hown : s.vm.findClass "java/lang/String" = some m.cls := hown
  have hml : c.maxLocals = 1 := hml
  show OGo p e below s _ _ (T0.setTop (mkF m 0 #[.val (.ref a1)] []))
  obtain ⟨T52, X52, e52, st52⟩ := getS2 X0 hx hZ hown (host := "") (Or.inl (hw _ (List.mem_of_getElem? (i := 36) rfl))) Via.refl e0 S_COMPACT_STRINGS (g := (mkF m 0 #[.val (.ref a1)] [])) rfl (hb hby d12_0)
  refine own_st st52 ?_
  show OGo p e below s _ _ (T52.setTop (mkF m 3 #[.val (.ref a1)] [(.int cs)]))
  refine own_st (fun tt zk => XS.ifNo X52.here hx rfl (hb hby d12_3) rfl ((if0 _ _).trans (feq (hcs)).1) zk) ?_
  show OGo p e below s _ _ (T52.setTop (mkF m 6 #[.val (.ref a1)] []))
  refine own_st (fun tt zk => XS.aloadN X52.here hx rfl (hb hby d12_6) rfl rfl zk) ?_
  show OGo p e below s _ _ (T52.setTop (mkF m 7 #[.val (.ref a1)] [(.ref a1)]))
  obtain ⟨T53, X53, e53, st53⟩ := getF X52 hx hZ hown (host := "") (Or.inl (hw _ (List.mem_of_getElem? (i := 21) rfl))) Via.refl e52 F_coder_a1 (g := (mkF m 7 #[.val (.ref a1)] [(.ref a1)])) rfl rfl (hb hby d12_7)
  refine own_st st53 ?_
  show OGo p e below s _ _ (T53.setTop (mkF m 10 #[.val (.ref a1)] [(.int (0 : Int32))]))
  refine own_st (fun tt zk => XS.ifNo X53.here hx rfl (hb hby d12_10) rfl ((if0 _ _).trans (teq ((by decide : (0 : Int32) = (0 : Int32)))).2) zk) ?_
  show OGo p e below s _ _ (T53.setTop (mkF m 13 #[.val (.ref a1)] []))
  refine own_st (fun tt zk => XS.iconst X53.here hx rfl (hb hby d12_13) zk) ?_
  show OGo p e below s _ _ (T53.setTop (mkF m 14 #[.val (.ref a1)] [(.int (1 : Int32))]))
  refine own_st (fun tt zk => XS.goto X53.here hx rfl (pc0 := 14) (pc' := 18) rfl (hb hby d12_14) (by decide) (by decide) zk) ?_
  show OGo p e below s _ _ (T53.setTop (mkF m 18 #[.val (.ref a1)] [(.int (1 : Int32))]))
  exact own_retN X53 hx hlk (t := .boolean) hret (by simp) (hb hby d12_18) (by decide) (by decide) (⟨rfl, rfl, e53⟩)
theorem d12_17 : decode jdk_42_method_154_code 17 = .ok (.iconst 0, 1) := by decide +kernel
set_option maxRecDepth 65536 in
set_option maxHeartbeats 40000000 in
theorem sk3_1 (l : Launch) (Z : State) (a0 : Array Value) (hw : ∀ d ∈ tables_1, d.before a0 Z = true) (a1 : Addr) (cs : Int32) (h0 : Heap) (F_coder_a1 : Fld Z h0 a1 "java/lang/String" "coder" "B" (.int (1 : Int32))) (S_COMPACT_STRINGS : Sta Z h0 "java/lang/String" "COMPACT_STRINGS" "Z" (.int cs)) (hcs : ¬ cs = (0 : Int32)) :
    OPure l Z (⟨"java/lang/String", "isLatin1", "()Z"⟩ : MethodName) jdk_42_method_154_code 1 (some .boolean) [] ({ frames := 0, cells := 0, slots := 0, locals := 0 } : Room) #[(.ref a1)] h0 (some (.int (0 : Int32))) := by
  refine own_body (plainFor_of_name pn_java_lang_String) (fun m => ef_12_R m a1) ?_
  intro p e s m below meth c T0 hx hby hml hown hnm hret hlk hZ X0 e0
  have hown : s.vm.findClass "java/lang/String" = some m.cls := hown
  have hml : c.maxLocals = 1 := hml
  show OGo p e below s _ _ (T0.setTop (mkF m 0 #[.val (.ref a1)] []))
  obtain ⟨T54, X54, e54, st54⟩ := getS2 X0 hx hZ hown (host := "") (Or.inl (hw _ (List.mem_of_getElem? (i := 36) rfl))) Via.refl e0 S_COMPACT_STRINGS (g := (mkF m 0 #[.val (.ref a1)] [])) rfl (hb hby d12_0)
  refine own_st st54 ?_
  show OGo p e below s _ _ (T54.setTop (mkF m 3 #[.val (.ref a1)] [(.int cs)]))
  refine own_st (fun tt zk => XS.ifNo X54.here hx rfl (hb hby d12_3) rfl ((if0 _ _).trans (feq (hcs)).1) zk) ?_
  show OGo p e below s _ _ (T54.setTop (mkF m 6 #[.val (.ref a1)] []))
  refine own_st (fun tt zk => XS.aloadN X54.here hx rfl (hb hby d12_6) rfl rfl zk) ?_
  show OGo p e below s _ _ (T54.setTop (mkF m 7 #[.val (.ref a1)] [(.ref a1)]))
  obtain ⟨T55, X55, e55, st55⟩ := getF X54 hx hZ hown (host := "") (Or.inl (hw _ (List.mem_of_getElem? (i := 21) rfl))) Via.refl e54 F_coder_a1 (g := (mkF m 7 #[.val (.ref a1)] [(.ref a1)])) rfl rfl (hb hby d12_7)
  refine own_st st55 ?_
  show OGo p e below s _ _ (T55.setTop (mkF m 10 #[.val (.ref a1)] [(.int (1 : Int32))]))
  refine own_st (fun tt zk => XS.ifYes X55.here hx rfl (pc0 := 10) (pc' := 17) rfl (hb hby d12_10) rfl ((if0 _ _).trans (feq ((by decide : ¬ (1 : Int32) = (0 : Int32)))).2) (by decide) (by decide) zk) ?_
  show OGo p e below s _ _ (T55.setTop (mkF m 17 #[.val (.ref a1)] []))
  refine own_st (fun tt zk => XS.iconst X55.here hx rfl (hb hby d12_17) zk) ?_
  show OGo p e below s _ _ (T55.setTop (mkF m 18 #[.val (.ref a1)] [(.int (0 : Int32))]))
  exact own_retN X55 hx hlk (t := .boolean) hret (by simp) (hb hby d12_18) (by decide) (by decide) (⟨rfl, rfl, e55⟩)
theorem d13_0 : decode jdk_43_method_2_code 0 = .ok (.iload_n 1, 1) := by decide +kernel
theorem d13_1 : decode jdk_43_method_2_code 1 = .ok (.aload_n 0, 1) := by decide +kernel
theorem d13_2 : decode jdk_43_method_2_code 2 = .ok (.arraylength, 1) := by decide +kernel
theorem d13_3 : decode jdk_43_method_2_code 3 = .ok (.invokestatic 9, 3) := by decide +kernel
theorem pd_10 : parseMethodDescriptor "(II)V" = some ⟨[.int, .int], none⟩ := by decide +kernel
theorem d13_6 : decode jdk_43_method_2_code 6 = .ok (.aload_n 0, 1) := by decide +kernel
theorem d13_7 : decode jdk_43_method_2_code 7 = .ok (.iload_n 1, 1) := by decide +kernel
theorem d13_8 : decode jdk_43_method_2_code 8 = .ok (.baload, 1) := by decide +kernel
theorem d13_9 : decode jdk_43_method_2_code 9 = .ok (.sipush 255, 3) := by decide +kernel
theorem d13_12 : decode jdk_43_method_2_code 12 = .ok (.iand, 1) := by decide +kernel
theorem d13_13 : decode jdk_43_method_2_code 13 = .ok (.i2c, 1) := by decide +kernel
theorem d13_14 : decode jdk_43_method_2_code 14 = .ok (.ireturn, 1) := by decide +kernel
theorem pn_java_lang_StringLatin1 : plainName "java/lang/StringLatin1" = true := by first | (simp [plainName, overriddenIn]; done) | decide +kernel
theorem ef_13_RI (m : MethodId) (x0 : Addr) (x1 : Int32) : entryFrame m #[(.ref x0), (.int x1)] 2 = mkF m 0 #[.val (.ref x0), .val (.int x1)] [] := by first | (simp [entryFrame, mkF, argsToLocals, Value.category]; done) | rfl
set_option maxRecDepth 65536 in
set_option maxHeartbeats 40000000 in
theorem sk4 (l : Launch) (Z : State) (a0 : Array Value) (hw : ∀ d ∈ tables_1, d.before a0 Z = true) (a1 : Addr) (i : Nat) (n : Nat) (cf : Nat → Int32) (fm : Value) (h0 : Heap) (A_a1 : OAr Z h0 a1 .byte n (fun j => .int (own_lb (cf j)))) (S_SIOOBE_FORMATTER : Sta Z h0 "jdk/internal/util/Preconditions" "SIOOBE_FORMATTER" "Ljava/util/function/BiFunction;" fm) (cat_fm : fm.category = 1) (ir_fm : fm.isRef = true) (hi : i < n) (hn : n ≤ 3) (hle : ¬ (255 : Int32) < cf i) (hb0 : 0 ≤ (cf i).toInt) (hb1 : (cf i).toInt < 65536) :
    OPure l Z (⟨"java/lang/StringLatin1", "charAt", "([BI)C"⟩ : MethodName) jdk_43_method_2_code 2 (some .char) [] ({ frames := 2, cells := 0, slots := 0, locals := 27 } : Room) #[(.ref a1), (.int (Int32.ofNat i))] h0 (some (.int (cf i))) := by
  refine own_body (plainFor_of_name pn_java_lang_StringLatin1) (fun m => ef_13_RI m a1 (Int32.ofNat i)) ?_
  intro p e s m below meth c T0 hx hby hml hown hnm hret hlk hZ X0 e0
  have hown : s.vm.findClass "java/lang/StringLatin1" = some m.cls := hown
  have hml : c.maxLocals = 2 := hml
  show OGo p e below s _ _ (T0.setTop (mkF m 0 #[.val (.ref a1), .val (.int (Int32.ofNat i))] []))
  refine own_st (fun tt zk => XS.iloadN X0.here hx rfl (hb hby d13_0) rfl zk) ?_
  show OGo p e below s _ _ (T0.setTop (mkF m 1 #[.val (.ref a1), .val (.int (Int32.ofNat i))] [(.int (Int32.ofNat i))]))
  refine own_st (fun tt zk => XS.aloadN X0.here hx rfl (hb hby d13_1) rfl rfl zk) ?_
  show OGo p e below s _ _ (T0.setTop (mkF m 2 #[.val (.ref a1), .val (.int (Int32.ofNat i))] [(.ref a1), (.int (Int32.ofNat i))]))
  obtain ⟨cl56, Ar56, Sz56, -⟩ := id A_a1
  refine own_st (X0.arraylength hx (by rw [e0]; exact Ar56.1) (State.isArrayOf_alike hZ.alike Ar56.2.1) (g := (mkF m 2 #[.val (.ref a1), .val (.int (Int32.ofNat i))] [(.ref a1), (.int (Int32.ofNat i))])) rfl rfl (hb hby d13_2)) ?_
  rw [Sz56, own_len n]
  show OGo p e below s _ _ (T0.setTop (mkF m 3 #[.val (.ref a1), .val (.int (Int32.ofNat i))] [(.int (Int32.ofNat n)), (.int (Int32.ofNat i))]))
  obtain ⟨T57, X57, e57, st57⟩ := own_callSP X0 hx hZ (y := (⟨"java/lang/String", "checkIndex", "(II)V"⟩ : MethodName)) (W := 0) hown (hw _ (List.mem_of_getElem? (i := 65) rfl)) (hw _ (List.mem_of_getElem? (i := 66) rfl)) (hw _ (List.mem_of_getElem? (i := 2) rfl)) (hw _ (List.mem_of_getElem? (i := 67) rfl)) (by decide) (sk2 l Z a0 hw (Int32.ofNat i) (Int32.ofNat n) fm h0 S_SIOOBE_FORMATTER cat_fm ir_fm (own_nat (by omega)).2.1 ((own_lt (by omega) (by omega)).mpr hi)) (by decide) (by decide) (g := (mkF m 3 #[.val (.ref a1), .val (.int (Int32.ofNat i))] [(.int (Int32.ofNat n)), (.int (Int32.ofNat i))])) rfl (by rw [hml]; rfl) (argsL := [(.int (Int32.ofNat i)), (.int (Int32.ofNat n))]) (rest := []) (lenOf pd_10 rfl) rfl (by show 2 * 0 + _ ≤ _; exact Nat.le_of_eq rfl) (hb hby d13_3) rfl e0 (by decide) (by decide)
  refine own_st st57 ?_
  show OGo p e below s _ _ (T57.setTop (mkF m 6 #[.val (.ref a1), .val (.int (Int32.ofNat i))] []))
  refine own_st (fun tt zk => XS.aloadN X57.here hx rfl (hb hby d13_6) rfl rfl zk) ?_
  show OGo p e below s _ _ (T57.setTop (mkF m 7 #[.val (.ref a1), .val (.int (Int32.ofNat i))] [(.ref a1)]))
  refine own_st (fun tt zk => XS.iloadN X57.here hx rfl (hb hby d13_7) rfl zk) ?_
  show OGo p e below s _ _ (T57.setTop (mkF m 8 #[.val (.ref a1), .val (.int (Int32.ofNat i))] [(.int (Int32.ofNat i)), (.ref a1)]))
  obtain ⟨cl58, Ar58, Sz58, Hh58⟩ := id A_a1
  have hin58 := own_in (i := (Int32.ofNat i)) Sz58 (own_nat (by omega)).2.1 (by rw [(own_nat (by omega)).1]; exact hi)
  refine own_st (X57.baloadBytes hx (j := (Int32.ofNat i)) (v := (.int (own_lb (cf i)))) (by rw [e57]; exact Ar58.1) (State.isArrayOf_alike hZ.alike Ar58.2.1) Ar58.2.2 hin58 ((Hh58 _ (by rw [(own_nat (by omega)).1]; exact hi)).trans (congrArg some (by rw [(own_nat (by omega)).1]))) (g := (mkF m 8 #[.val (.ref a1), .val (.int (Int32.ofNat i))] [(.int (Int32.ofNat i)), (.ref a1)])) rfl rfl (hb hby d13_8)) ?_
  show OGo p e below s _ _ (T57.setTop (mkF m 9 #[.val (.ref a1), .val (.int (Int32.ofNat i))] [(.int (own_lb (cf i)))]))
  refine own_st (fun tt zk => XS.sipush X57.here hx rfl (hb hby d13_9) zk) ?_
  show OGo p e below s _ _ (T57.setTop (mkF m 12 #[.val (.ref a1), .val (.int (Int32.ofNat i))] [(.int (255 : Int32)), (.int (own_lb (cf i)))]))
  refine own_st (fun tt zk => XS.iand X57.here hx rfl (hb hby d13_12) rfl zk) ?_
  show OGo p e below s _ _ (T57.setTop (mkF m 13 #[.val (.ref a1), .val (.int (Int32.ofNat i))] [(.int ((own_lb (cf i)) &&& (255 : Int32)))]))
  refine own_st (fun tt zk => XS.i2c X57.here hx rfl (hb hby d13_13) rfl zk) ?_
  show OGo p e below s _ _ (T57.setTop (mkF m 14 #[.val (.ref a1), .val (.int (Int32.ofNat i))] [(.int ((own_lb (cf i)) &&& (255 : Int32)).toUInt32.toUInt16.toUInt32.toInt32)]))
  rw [own_lb_t (cf i) hb0 hle]
  exact own_retN X57 hx hlk (t := .char) hret (by simp) (hb hby d13_14) (by decide) (by decide) (⟨(congrArg (fun z => some (Value.int z)) (own_nc (cf i) hb0 hb1)), rfl, e57⟩)
theorem d23_0 : decode jdk_52_method_6_code 0 = .ok (.aload_n 0, 1) := by decide +kernel
theorem d23_1 : decode jdk_52_method_6_code 1 = .ok (.arraylength, 1) := by decide +kernel
theorem d23_2 : decode jdk_52_method_6_code 2 = .ok (.iconst 1, 1) := by decide +kernel
theorem d23_3 : decode jdk_52_method_6_code 3 = .ok (.ishr, 1) := by decide +kernel
theorem d23_4 : decode jdk_52_method_6_code 4 = .ok (.ireturn, 1) := by decide +kernel
theorem ef_23_R (m : MethodId) (x0 : Addr) : entryFrame m #[(.ref x0)] 1 = mkF m 0 #[.val (.ref x0)] [] := by first | (simp [entryFrame, mkF, argsToLocals, Value.category]; done) | rfl
set_option maxRecDepth 65536 in
set_option maxHeartbeats 40000000 in
theorem sk5 (l : Launch) (Z : State) (a0 : Array Value) (hw : ∀ d ∈ tables_1, d.before a0 Z = true) (a1 : Addr) (n : Nat) (gf : Nat → Value) (h0 : Heap) (A_a1 : OAr Z h0 a1 .byte (2 * n) gf) (hn : n ≤ 3) :
    OPure l Z (⟨"java/lang/StringUTF16", "length", "([B)I"⟩ : MethodName) jdk_52_method_6_code 1 (some .int) [] ({ frames := 0, cells := 0, slots := 0, locals := 0 } : Room) #[(.ref a1)] h0 (some (.int (Int32.ofNat n))) := by
  refine own_body (plainFor_of_name pn_java_lang_StringUTF16) (fun m => ef_23_R m a1) ?_
  intro p e s m below meth c T0 hx hby hml hown hnm hret hlk hZ X0 e0
  have hown : s.vm.findClass "java/lang/StringUTF16" = some m.cls := hown
  have hml : c.maxLocals = 1 := hml
  show OGo p e below s _ _ (T0.setTop (mkF m 0 #[.val (.ref a1)] []))
  refine own_st (fun tt zk => XS.aloadN X0.here hx rfl (hb hby d23_0) rfl rfl zk) ?_
  show OGo p e below s _ _ (T0.setTop (mkF m 1 #[.val (.ref a1)] [(.ref a1)]))
  obtain ⟨cl59, Ar59, Sz59, -⟩ := id A_a1
  refine own_st (X0.arraylength hx (by rw [e0]; exact Ar59.1) (State.isArrayOf_alike hZ.alike Ar59.2.1) (g := (mkF m 1 #[.val (.ref a1)] [(.ref a1)])) rfl rfl (hb hby d23_1)) ?_
  rw [Sz59, own_len (2 * n)]
  show OGo p e below s _ _ (T0.setTop (mkF m 2 #[.val (.ref a1)] [(.int (Int32.ofNat (2 * n)))]))
  refine own_st (fun tt zk => XS.iconst X0.here hx rfl (hb hby d23_2) zk) ?_
  show OGo p e below s _ _ (T0.setTop (mkF m 3 #[.val (.ref a1)] [(.int (1 : Int32)), (.int (Int32.ofNat (2 * n)))]))
  refine own_st (fun tt zk => XS.ishr X0.here hx rfl (hb hby d23_3) rfl zk) ?_
  show OGo p e below s _ _ (T0.setTop (mkF m 4 #[.val (.ref a1)] [(.int ((Int32.ofNat (2 * n)) >>> ((1 : Int32) &&& 31)))]))
  rw [own_shr1 n (by omega)]
  exact own_retI X0 hx hlk hret (hb hby d23_4) (by decide) (by decide) (⟨rfl, rfl, e0⟩)
theorem d22_0 : decode jdk_52_method_91_code 0 = .ok (.iload_n 0, 1) := by decide +kernel
theorem d22_1 : decode jdk_52_method_91_code 1 = .ok (.aload_n 1, 1) := by decide +kernel
theorem d22_2 : decode jdk_52_method_91_code 2 = .ok (.invokestatic 48, 3) := by decide +kernel
theorem pd_11 : parseMethodDescriptor "([B)I" = some ⟨[(.array .byte)], some .int⟩ := by decide +kernel
theorem d22_5 : decode jdk_52_method_91_code 5 = .ok (.invokestatic 414, 3) := by decide +kernel
theorem d22_8 : decode jdk_52_method_91_code 8 = .ok (.return_, 1) := by decide +kernel
theorem ef_22_IR (m : MethodId) (x0 : Int32) (x1 : Addr) : entryFrame m #[(.int x0), (.ref x1)] 2 = mkF m 0 #[.val (.int x0), .val (.ref x1)] [] := by first | (simp [entryFrame, mkF, argsToLocals, Value.category]; done) | rfl
set_option maxRecDepth 65536 in
set_option maxHeartbeats 40000000 in
theorem sk6 (l : Launch) (Z : State) (a0 : Array Value) (hw : ∀ d ∈ tables_1, d.before a0 Z = true) (a2 : Addr) (i : Nat) (n : Nat) (gf : Nat → Value) (fm : Value) (h0 : Heap) (A_a2 : OAr Z h0 a2 .byte (2 * n) gf) (S_SIOOBE_FORMATTER : Sta Z h0 "jdk/internal/util/Preconditions" "SIOOBE_FORMATTER" "Ljava/util/function/BiFunction;" fm) (cat_fm : fm.category = 1) (ir_fm : fm.isRef = true) (hi : i < n) (hn : n ≤ 3) :
    OPure l Z (⟨"java/lang/StringUTF16", "checkIndex", "(I[B)V"⟩ : MethodName) jdk_52_method_91_code 2 none [] ({ frames := 2, cells := 0, slots := 0, locals := 27 } : Room) #[(.int (Int32.ofNat i)), (.ref a2)] h0 (none) := by
  refine own_body (plainFor_of_name pn_java_lang_StringUTF16) (fun m => ef_22_IR m (Int32.ofNat i) a2) ?_
  intro p e s m below meth c T0 hx hby hml hown hnm hret hlk hZ X0 e0
  have hown : s.vm.findClass "java/lang/StringUTF16" = some m.cls := hown
  have hml : c.maxLocals = 2 := hml
  show OGo p e below s _ _ (T0.setTop (mkF m 0 #[.val (.int (Int32.ofNat i)), .val (.ref a2)] []))
  refine own_st (fun tt zk => XS.iloadN X0.here hx rfl (hb hby d22_0) rfl zk) ?_
  show OGo p e below s _ _ (T0.setTop (mkF m 1 #[.val (.int (Int32.ofNat i)), .val (.ref a2)] [(.int (Int32.ofNat i))]))
  refine own_st (fun tt zk => XS.aloadN X0.here hx rfl (hb hby d22_1) rfl rfl zk) ?_
  show OGo p e below s _ _ (T0.setTop (mkF m 2 #[.val (.int (Int32.ofNat i)), .val (.ref a2)] [(.ref a2), (.int (Int32.ofNat i))]))
  obtain ⟨T60, X60, e60, st60⟩ := own_callSP X0 hx hZ (y := (⟨"java/lang/StringUTF16", "length", "([B)I"⟩ : MethodName)) (W := 1) hown (hw _ (List.mem_of_getElem? (i := 98) rfl)) (hw _ (List.mem_of_getElem? (i := 99) rfl)) (hw _ (List.mem_of_getElem? (i := 39) rfl)) (hw _ (List.mem_of_getElem? (i := 100) rfl)) (by decide) (sk5 l Z a0 hw a2 n gf h0 A_a2 hn) (by decide) (by decide) (g := (mkF m 2 #[.val (.int (Int32.ofNat i)), .val (.ref a2)] [(.ref a2), (.int (Int32.ofNat i))])) rfl (by rw [hml]; rfl) (argsL := [(.ref a2)]) (rest := [(.int (Int32.ofNat i))]) (lenOf pd_11 rfl) rfl (by show 2 * 0 + _ ≤ _; exact Nat.le_of_eq rfl) (hb hby d22_2) rfl e0 (by decide) (by decide)
  refine own_st st60 ?_
  show OGo p e below s _ _ (T60.setTop (mkF m 5 #[.val (.int (Int32.ofNat i)), .val (.ref a2)] [(.int (Int32.ofNat n)), (.int (Int32.ofNat i))]))
  obtain ⟨T61, X61, e61, st61⟩ := own_callSP X60 hx hZ (y := (⟨"java/lang/String", "checkIndex", "(II)V"⟩ : MethodName)) (W := 0) hown (hw _ (List.mem_of_getElem? (i := 101) rfl)) (hw _ (List.mem_of_getElem? (i := 66) rfl)) (hw _ (List.mem_of_getElem? (i := 2) rfl)) (hw _ (List.mem_of_getElem? (i := 67) rfl)) (by decide) (sk2 l Z a0 hw (Int32.ofNat i) (Int32.ofNat n) fm h0 S_SIOOBE_FORMATTER cat_fm ir_fm (own_nat (by omega)).2.1 ((own_lt (by omega) (by omega)).mpr hi)) (by decide) (by decide) (g := (mkF m 5 #[.val (.int (Int32.ofNat i)), .val (.ref a2)] [(.int (Int32.ofNat n)), (.int (Int32.ofNat i))])) rfl (by rw [hml]; rfl) (argsL := [(.int (Int32.ofNat i)), (.int (Int32.ofNat n))]) (rest := []) (lenOf pd_10 rfl) rfl (by show 2 * 0 + _ ≤ _; exact Nat.le_of_eq rfl) (hb hby d22_5) rfl e60 (by decide) (by decide)
  refine own_st st61 ?_
  show OGo p e below s _ _ (T61.setTop (mkF m 8 #[.val (.int (Int32.ofNat i)), .val (.ref a2)] []))
  exact own_retV X61 hx hlk hret (hb hby d22_8) (by decide) (by decide) (⟨rfl, rfl, e61⟩)
theorem d21_0 : decode jdk_52_method_83_code 0 = .ok (.iload_n 1, 1) := by decide +kernel
theorem d21_1 : decode jdk_52_method_83_code 1 = .ok (.aload_n 0, 1) := by decide +kernel
theorem d21_2 : decode jdk_52_method_83_code 2 = .ok (.invokestatic 67, 3) := by decide +kernel
theorem pd_12 : parseMethodDescriptor "(I[B)V" = some ⟨[.int, (.array .byte)], none⟩ := by decide +kernel
theorem d21_5 : decode jdk_52_method_83_code 5 = .ok (.aload_n 0, 1) := by decide +kernel
theorem d21_6 : decode jdk_52_method_83_code 6 = .ok (.iload_n 1, 1) := by decide +kernel
theorem d21_7 : decode jdk_52_method_83_code 7 = .ok (.invokestatic 71, 3) := by decide +kernel
theorem d21_10 : decode jdk_52_method_83_code 10 = .ok (.ireturn, 1) := by decide +kernel
theorem ef_21_RI (m : MethodId) (x0 : Addr) (x1 : Int32) : entryFrame m #[(.ref x0), (.int x1)] 2 = mkF m 0 #[.val (.ref x0), .val (.int x1)] [] := by first | (simp [entryFrame, mkF, argsToLocals, Value.category]; done) | rfl
set_option maxRecDepth 65536 in
set_option maxHeartbeats 40000000 in
theorem sk7 (l : Launch) (Z : State) (a0 : Array Value) (hw : ∀ d ∈ tables_1, d.before a0 Z = true) (a1 : Addr) (i : Nat) (n : Nat) (cf : Nat → Int32) (fm : Value) (h0 : Heap) (A_a1 : OAr Z h0 a1 .byte (2 * n) (own_ub cf)) (S_SIOOBE_FORMATTER : Sta Z h0 "jdk/internal/util/Preconditions" "SIOOBE_FORMATTER" "Ljava/util/function/BiFunction;" fm) (S__assertionsDisabled : Sta Z h0 "java/lang/StringUTF16" "$assertionsDisabled" "Z" (.int (1 : Int32))) (S_HI_BYTE_SHIFT : Sta Z h0 "java/lang/StringUTF16" "HI_BYTE_SHIFT" "I" (.int (0 : Int32))) (S_LO_BYTE_SHIFT : Sta Z h0 "java/lang/StringUTF16" "LO_BYTE_SHIFT" "I" (.int (8 : Int32))) (cat_fm : fm.category = 1) (ir_fm : fm.isRef = true) (hi : i < n) (hn : n ≤ 3) (hb0 : 0 ≤ (cf i).toInt) (hb1 : (cf i).toInt < 65536) :
    OPure l Z (⟨"java/lang/StringUTF16", "charAt", "([BI)C"⟩ : MethodName) jdk_52_method_83_code 2 (some .char) [] ({ frames := 3, cells := 0, slots := 0, locals := 40 } : Room) #[(.ref a1), (.int (Int32.ofNat i))] h0 (some (.int (cf i))) := by
  refine own_body (plainFor_of_name pn_java_lang_StringUTF16) (fun m => ef_21_RI m a1 (Int32.ofNat i)) ?_
  intro p e s m below meth c T0 hx hby hml hown hnm hret hlk hZ X0 e0
  have hown : s.vm.findClass "java/lang/StringUTF16" = some m.cls := hown
  have hml : c.maxLocals = 2 := hml
  show OGo p e below s _ _ (T0.setTop (mkF m 0 #[.val (.ref a1), .val (.int (Int32.ofNat i))] []))
  refine own_st (fun tt zk => XS.iloadN X0.here hx rfl (hb hby d21_0) rfl zk) ?_
  show OGo p e below s _ _ (T0.setTop (mkF m 1 #[.val (.ref a1), .val (.int (Int32.ofNat i))] [(.int (Int32.ofNat i))]))
  refine own_st (fun tt zk => XS.aloadN X0.here hx rfl (hb hby d21_1) rfl rfl zk) ?_
  show OGo p e below s _ _ (T0.setTop (mkF m 2 #[.val (.ref a1), .val (.int (Int32.ofNat i))] [(.ref a1), (.int (Int32.ofNat i))]))
  obtain ⟨T62, X62, e62, st62⟩ := own_callSP X0 hx hZ (y := (⟨"java/lang/StringUTF16", "checkIndex", "(I[B)V"⟩ : MethodName)) (W := 0) hown (hw _ (List.mem_of_getElem? (i := 95) rfl)) (hw _ (List.mem_of_getElem? (i := 96) rfl)) (hw _ (List.mem_of_getElem? (i := 39) rfl)) (hw _ (List.mem_of_getElem? (i := 97) rfl)) (by decide) (sk6 l Z a0 hw a1 i n (own_ub cf) fm h0 A_a1 S_SIOOBE_FORMATTER cat_fm ir_fm hi hn) (by decide) (by decide) (g := (mkF m 2 #[.val (.ref a1), .val (.int (Int32.ofNat i))] [(.ref a1), (.int (Int32.ofNat i))])) rfl (by rw [hml]; rfl) (argsL := [(.int (Int32.ofNat i)), (.ref a1)]) (rest := []) (lenOf pd_12 rfl) rfl (by show 2 * 0 + _ ≤ _; exact Nat.le_of_eq rfl) (hb hby d21_2) rfl e0 (by decide) (by decide)
  refine own_st st62 ?_
  show OGo p e below s _ _ (T62.setTop (mkF m 5 #[.val (.ref a1), .val (.int (Int32.ofNat i))] []))
  refine own_st (fun tt zk => XS.aloadN X62.here hx rfl (hb hby d21_5) rfl rfl zk) ?_
  show OGo p e below s _ _ (T62.setTop (mkF m 6 #[.val (.ref a1), .val (.int (Int32.ofNat i))] [(.ref a1)]))
  refine own_st (fun tt zk => XS.iloadN X62.here hx rfl (hb hby d21_6) rfl zk) ?_
  show OGo p e below s _ _ (T62.setTop (mkF m 7 #[.val (.ref a1), .val (.int (Int32.ofNat i))] [(.int (Int32.ofNat i)), (.ref a1)]))
  obtain ⟨T63, X63, e63, st63⟩ := own_callSP X62 hx hZ (y := (⟨"java/lang/StringUTF16", "getChar", "([BI)C"⟩ : MethodName)) (W := 0) hown (hw _ (List.mem_of_getElem? (i := 89) rfl)) (hw _ (List.mem_of_getElem? (i := 90) rfl)) (hw _ (List.mem_of_getElem? (i := 39) rfl)) (hw _ (List.mem_of_getElem? (i := 91) rfl)) (by decide) (su5 l Z a0 hw a1 i (2 * n) (cf i) (own_ub cf) h0 A_a1 S__assertionsDisabled S_HI_BYTE_SHIFT S_LO_BYTE_SHIFT (by omega) (by omega) (own_ub0 cf i) (own_ub1 cf i) hb0 hb1) (by decide) (by decide) (g := (mkF m 7 #[.val (.ref a1), .val (.int (Int32.ofNat i))] [(.int (Int32.ofNat i)), (.ref a1)])) rfl (by rw [hml]; rfl) (argsL := [(.ref a1), (.int (Int32.ofNat i))]) (rest := []) (lenOf pd_8 rfl) rfl (by show 2 * 0 + _ ≤ _; exact Nat.le_of_eq rfl) (hb hby d21_7) rfl e62 (by decide) (by decide)
  refine own_st st63 ?_
  show OGo p e below s _ _ (T63.setTop (mkF m 10 #[.val (.ref a1), .val (.int (Int32.ofNat i))] [(.int (cf i))]))
  exact own_retN X63 hx hlk (t := .char) hret (by simp) (hb hby d21_10) (by decide) (by decide) (⟨(congrArg (fun z => some (Value.int z)) (own_nc (cf i) hb0 hb1)), rfl, e63⟩)
theorem d11_0 : decode jdk_42_method_56_code 0 = .ok (.aload_n 0, 1) := by decide +kernel
theorem d11_1 : decode jdk_42_method_56_code 1 = .ok (.invokevirtual 492, 3) := by decide +kernel
theorem pd_13 : parseMethodDescriptor "()Z" = some ⟨[], some .boolean⟩ := by decide +kernel
theorem d11_4 : decode jdk_42_method_56_code 4 = .ok (.ifCond .eq 12, 3) := by decide +kernel
theorem d11_7 : decode jdk_42_method_56_code 7 = .ok (.aload_n 0, 1) := by decide +kernel
theorem d11_8 : decode jdk_42_method_56_code 8 = .ok (.getfield 9, 3) := by decide +kernel
theorem d11_11 : decode jdk_42_method_56_code 11 = .ok (.iload_n 1, 1) := by decide +kernel
theorem d11_12 : decode jdk_42_method_56_code 12 = .ok (.invokestatic 495, 3) := by decide +kernel
theorem d11_15 : decode jdk_42_method_56_code 15 = .ok (.ireturn, 1) := by decide +kernel
theorem ef_11_RI (m : MethodId) (x0 : Addr) (x1 : Int32) : entryFrame m #[(.ref x0), (.int x1)] 2 = mkF m 0 #[.val (.ref x0), .val (.int x1)] [] := by first | (simp [entryFrame, mkF, argsToLocals, Value.category]; done) | rfl
set_option maxRecDepth 65536 in
set_option maxHeartbeats 40000000 in
theorem sk8 (l : Launch) (Z : State) (a0 : Array Value) (hw : ∀ d ∈ tables_1, d.before a0 Z = true) (a1 : Addr) (i : Nat) (t1 : Addr) (n : Nat) (cf : Nat → Int32) (cs : Int32) (fm : Value) (h0 : Heap) (E_a1 : Exa Z h0 a1 "java/lang/String") (F_coder_a1 : Fld Z h0 a1 "java/lang/String" "coder" "B" (.int (0 : Int32))) (F_value_a1 : Fld Z h0 a1 "java/lang/String" "value" "[B" (.ref t1)) (A_t1 : OAr Z h0 t1 .byte n (fun j => .int (own_lb (cf j)))) (S_COMPACT_STRINGS : Sta Z h0 "java/lang/String" "COMPACT_STRINGS" "Z" (.int cs)) (S_SIOOBE_FORMATTER : Sta Z h0 "jdk/internal/util/Preconditions" "SIOOBE_FORMATTER" "Ljava/util/function/BiFunction;" fm) (hcs : ¬ cs = (0 : Int32)) (cat_fm : fm.category = 1) (ir_fm : fm.isRef = true) (hi : i < n) (hn : n ≤ 3) (hb0 : 0 ≤ (cf i).toInt) (hb1 : (cf i).toInt < 65536) (hle : ¬ (255 : Int32) < cf i) :
    OPure l Z (⟨"java/lang/String", "charAt", "(I)C"⟩ : MethodName) jdk_42_method_56_code 2 (some .char) [] ({ frames := 3, cells := 0, slots := 0, locals := 40 } : Room) #[(.ref a1), (.int (Int32.ofNat i))] h0 (some (.int (cf i))) := by
  refine own_body (plainFor_of_name pn_java_lang_String) (fun m => ef_11_RI m a1 (Int32.ofNat i)) ?_
  intro p e s m below meth c T0 hx hby hml hown hnm hret hlk hZ X0 e0
  have hown : s.vm.findClass "java/lang/String" = some m.cls := hown
  have hml : c.maxLocals = 2 := hml
  show OGo p e below s _ _ (T0.setTop (mkF m 0 #[.val (.ref a1), .val (.int (Int32.ofNat i))] []))
  refine own_st (fun tt zk => XS.aloadN X0.here hx rfl (hb hby d11_0) rfl rfl zk) ?_
  show OGo p e below s _ _ (T0.setTop (mkF m 1 #[.val (.ref a1), .val (.int (Int32.ofNat i))] [(.ref a1)]))
  obtain ⟨T64, X64, e64, st64⟩ := own_callVP X0 hx hZ (y := (⟨"java/lang/String", "isLatin1", "()Z"⟩ : MethodName)) (z := (⟨"java/lang/String", "isLatin1", "()Z"⟩ : MethodName)) (W := 0) hown (hw _ (List.mem_of_getElem? (i := 56) rfl)) (hw _ (List.mem_of_getElem? (i := 57) rfl)) (notFace_of_selects (args := #[]) (mvT hZ (hw _ (List.mem_of_getElem? (i := 59) rfl)))) (hw _ (List.mem_of_getElem? (i := 59) rfl)) (hw _ (List.mem_of_getElem? (i := 58) rfl)) (hw _ (List.mem_of_getElem? (i := 60) rfl)) (hw _ (List.mem_of_getElem? (i := 2) rfl)) (by decide) (sk3_0 l Z a0 hw a1 cs h0 F_coder_a1 S_COMPACT_STRINGS hcs) (by decide) (by decide) E_a1 (g := (mkF m 1 #[.val (.ref a1), .val (.int (Int32.ofNat i))] [(.ref a1)])) rfl (by rw [hml]; rfl) (argsL := []) (rest := []) (lenOf pd_13 rfl) rfl (by show 2 * 0 + _ ≤ _; exact Nat.le_of_eq rfl) (hb hby d11_1) rfl e0 (by decide) (by decide)
  refine own_st st64 ?_
  show OGo p e below s _ _ (T64.setTop (mkF m 4 #[.val (.ref a1), .val (.int (Int32.ofNat i))] [(.int (1 : Int32))]))
  refine own_st (fun tt zk => XS.ifNo X64.here hx rfl (hb hby d11_4) rfl ((if0 _ _).trans (feq ((by decide : ¬ (1 : Int32) = (0 : Int32)))).1) zk) ?_
  show OGo p e below s _ _ (T64.setTop (mkF m 7 #[.val (.ref a1), .val (.int (Int32.ofNat i))] []))
  refine own_st (fun tt zk => XS.aloadN X64.here hx rfl (hb hby d11_7) rfl rfl zk) ?_
  show OGo p e below s _ _ (T64.setTop (mkF m 8 #[.val (.ref a1), .val (.int (Int32.ofNat i))] [(.ref a1)]))
  obtain ⟨T65, X65, e65, st65⟩ := getF X64 hx hZ hown (host := "") (Or.inl (hw _ (List.mem_of_getElem? (i := 20) rfl))) Via.refl e64 F_value_a1 (g := (mkF m 8 #[.val (.ref a1), .val (.int (Int32.ofNat i))] [(.ref a1)])) rfl rfl (hb hby d11_8)
  refine own_st st65 ?_
  show OGo p e below s _ _ (T65.setTop (mkF m 11 #[.val (.ref a1), .val (.int (Int32.ofNat i))] [(.ref t1)]))
  refine own_st (fun tt zk => XS.iloadN X65.here hx rfl (hb hby d11_11) rfl zk) ?_
  show OGo p e below s _ _ (T65.setTop (mkF m 12 #[.val (.ref a1), .val (.int (Int32.ofNat i))] [(.int (Int32.ofNat i)), (.ref t1)]))
  obtain ⟨T66, X66, e66, st66⟩ := own_callSP X65 hx hZ (y := (⟨"java/lang/StringLatin1", "charAt", "([BI)C"⟩ : MethodName)) (W := 0) hown (hw _ (List.mem_of_getElem? (i := 61) rfl)) (hw _ (List.mem_of_getElem? (i := 62) rfl)) (hw _ (List.mem_of_getElem? (i := 63) rfl)) (hw _ (List.mem_of_getElem? (i := 64) rfl)) (by decide) (sk4 l Z a0 hw t1 i n cf fm h0 A_t1 S_SIOOBE_FORMATTER cat_fm ir_fm hi hn hle hb0 hb1) (by decide) (by decide) (g := (mkF m 12 #[.val (.ref a1), .val (.int (Int32.ofNat i))] [(.int (Int32.ofNat i)), (.ref t1)])) rfl (by rw [hml]; rfl) (argsL := [(.ref t1), (.int (Int32.ofNat i))]) (rest := []) (lenOf pd_8 rfl) rfl (by show 2 * 0 + _ ≤ _; exact Nat.le_of_eq rfl) (hb hby d11_12) rfl e65 (by decide) (by decide)
  refine own_st st66 ?_
  show OGo p e below s _ _ (T66.setTop (mkF m 15 #[.val (.ref a1), .val (.int (Int32.ofNat i))] [(.int (cf i))]))
  exact own_retN X66 hx hlk (t := .char) hret (by simp) (hb hby d11_15) (by decide) (by decide) (⟨(congrArg (fun z => some (Value.int z)) (own_nc (cf i) hb0 hb1)), rfl, e66⟩)
theorem d11_16 : decode jdk_42_method_56_code 16 = .ok (.aload_n 0, 1) := by decide +kernel
theorem d11_17 : decode jdk_42_method_56_code 17 = .ok (.getfield 9, 3) := by decide +kernel
theorem d11_20 : decode jdk_42_method_56_code 20 = .ok (.iload_n 1, 1) := by decide +kernel
theorem d11_21 : decode jdk_42_method_56_code 21 = .ok (.invokestatic 498, 3) := by decide +kernel
theorem d11_24 : decode jdk_42_method_56_code 24 = .ok (.ireturn, 1) := by decide +kernel
set_option maxRecDepth 65536 in
set_option maxHeartbeats 40000000 in
theorem sk9 (l : Launch) (Z : State) (a0 : Array Value) (hw : ∀ d ∈ tables_1, d.before a0 Z = true) (a1 : Addr) (i : Nat) (t1 : Addr) (n : Nat) (cf : Nat → Int32) (cs : Int32) (fm : Value) (h0 : Heap) (E_a1 : Exa Z h0 a1 "java/lang/String") (F_coder_a1 : Fld Z h0 a1 "java/lang/String" "coder" "B" (.int (1 : Int32))) (F_value_a1 : Fld Z h0 a1 "java/lang/String" "value" "[B" (.ref t1)) (A_t1 : OAr Z h0 t1 .byte (2 * n) (own_ub cf)) (S_COMPACT_STRINGS : Sta Z h0 "java/lang/String" "COMPACT_STRINGS" "Z" (.int cs)) (S_SIOOBE_FORMATTER : Sta Z h0 "jdk/internal/util/Preconditions" "SIOOBE_FORMATTER" "Ljava/util/function/BiFunction;" fm) (S__assertionsDisabled : Sta Z h0 "java/lang/StringUTF16" "$assertionsDisabled" "Z" (.int (1 : Int32))) (S_HI_BYTE_SHIFT : Sta Z h0 "java/lang/StringUTF16" "HI_BYTE_SHIFT" "I" (.int (0 : Int32))) (S_LO_BYTE_SHIFT : Sta Z h0 "java/lang/StringUTF16" "LO_BYTE_SHIFT" "I" (.int (8 : Int32))) (hcs : ¬ cs = (0 : Int32)) (cat_fm : fm.category = 1) (ir_fm : fm.isRef = true) (hi : i < n) (hn : n ≤ 3) (hb0 : 0 ≤ (cf i).toInt) (hb1 : (cf i).toInt < 65536) :
    OPure l Z (⟨"java/lang/String", "charAt", "(I)C"⟩ : MethodName) jdk_42_method_56_code 2 (some .char) [] ({ frames := 4, cells := 0, slots := 0, locals := 53 } : Room) #[(.ref a1), (.int (Int32.ofNat i))] h0 (some (.int (cf i))) := by
  refine own_body (plainFor_of_name pn_java_lang_String) (fun m => ef_11_RI m a1 (Int32.ofNat i)) ?_
  intro p e s m below meth c T0 hx hby hml hown hnm hret hlk hZ X0 e0
  have hown : s.vm.findClass "java/lang/String" = some m.cls := hown
  have hml : c.maxLocals = 2 := hml
  show OGo p e below s _ _ (T0.setTop (mkF m 0 #[.val (.ref a1), .val (.int (Int32.ofNat i))] []))
  refine own_st (fun tt zk => XS.aloadN X0.here hx rfl (hb hby d11_0) rfl rfl zk) ?_
  show OGo p e below s _ _ (T0.setTop (mkF m 1 #[.val (.ref a1), .val (.int (Int32.ofNat i))] [(.ref a1)]))
  obtain ⟨T67, X67, e67, st67⟩ := own_callVP X0 hx hZ (y := (⟨"java/lang/String", "isLatin1", "()Z"⟩ : MethodName)) (z := (⟨"java/lang/String", "isLatin1", "()Z"⟩ : MethodName)) (W := 0) hown (hw _ (List.mem_of_getElem? (i := 56) rfl)) (hw _ (List.mem_of_getElem? (i := 57) rfl)) (notFace_of_selects (args := #[]) (mvT hZ (hw _ (List.mem_of_getElem? (i := 59) rfl)))) (hw _ (List.mem_of_getElem? (i := 59) rfl)) (hw _ (List.mem_of_getElem? (i := 58) rfl)) (hw _ (List.mem_of_getElem? (i := 60) rfl)) (hw _ (List.mem_of_getElem? (i := 2) rfl)) (by decide) (sk3_1 l Z a0 hw a1 cs h0 F_coder_a1 S_COMPACT_STRINGS hcs) (by decide) (by decide) E_a1 (g := (mkF m 1 #[.val (.ref a1), .val (.int (Int32.ofNat i))] [(.ref a1)])) rfl (by rw [hml]; rfl) (argsL := []) (rest := []) (lenOf pd_13 rfl) rfl (by show 2 * 0 + _ ≤ _; exact Nat.le_of_eq rfl) (hb hby d11_1) rfl e0 (by decide) (by decide)
  refine own_st st67 ?_
  show OGo p e below s _ _ (T67.setTop (mkF m 4 #[.val (.ref a1), .val (.int (Int32.ofNat i))] [(.int (0 : Int32))]))
  refine own_st (fun tt zk => XS.ifYes X67.here hx rfl (pc0 := 4) (pc' := 16) rfl (hb hby d11_4) rfl ((if0 _ _).trans (teq ((by decide : (0 : Int32) = (0 : Int32)))).1) (by decide) (by decide) zk) ?_
  show OGo p e below s _ _ (T67.setTop (mkF m 16 #[.val (.ref a1), .val (.int (Int32.ofNat i))] []))
  refine own_st (fun tt zk => XS.aloadN X67.here hx rfl (hb hby d11_16) rfl rfl zk) ?_
  show OGo p e below s _ _ (T67.setTop (mkF m 17 #[.val (.ref a1), .val (.int (Int32.ofNat i))] [(.ref a1)]))
  obtain ⟨T68, X68, e68, st68⟩ := getF X67 hx hZ hown (host := "") (Or.inl (hw _ (List.mem_of_getElem? (i := 20) rfl))) Via.refl e67 F_value_a1 (g := (mkF m 17 #[.val (.ref a1), .val (.int (Int32.ofNat i))] [(.ref a1)])) rfl rfl (hb hby d11_17)
  refine own_st st68 ?_
  show OGo p e below s _ _ (T68.setTop (mkF m 20 #[.val (.ref a1), .val (.int (Int32.ofNat i))] [(.ref t1)]))
  refine own_st (fun tt zk => XS.iloadN X68.here hx rfl (hb hby d11_20) rfl zk) ?_
  show OGo p e below s _ _ (T68.setTop (mkF m 21 #[.val (.ref a1), .val (.int (Int32.ofNat i))] [(.int (Int32.ofNat i)), (.ref t1)]))
  obtain ⟨T69, X69, e69, st69⟩ := own_callSP X68 hx hZ (y := (⟨"java/lang/StringUTF16", "charAt", "([BI)C"⟩ : MethodName)) (W := 0) hown (hw _ (List.mem_of_getElem? (i := 92) rfl)) (hw _ (List.mem_of_getElem? (i := 93) rfl)) (hw _ (List.mem_of_getElem? (i := 39) rfl)) (hw _ (List.mem_of_getElem? (i := 94) rfl)) (by decide) (sk7 l Z a0 hw t1 i n cf fm h0 A_t1 S_SIOOBE_FORMATTER S__assertionsDisabled S_HI_BYTE_SHIFT S_LO_BYTE_SHIFT cat_fm ir_fm hi hn hb0 hb1) (by decide) (by decide) (g := (mkF m 21 #[.val (.ref a1), .val (.int (Int32.ofNat i))] [(.int (Int32.ofNat i)), (.ref t1)])) rfl (by rw [hml]; rfl) (argsL := [(.ref t1), (.int (Int32.ofNat i))]) (rest := []) (lenOf pd_8 rfl) rfl (by show 2 * 0 + _ ≤ _; exact Nat.le_of_eq rfl) (hb hby d11_21) rfl e68 (by decide) (by decide)
  refine own_st st69 ?_
  show OGo p e below s _ _ (T69.setTop (mkF m 24 #[.val (.ref a1), .val (.int (Int32.ofNat i))] [(.int (cf i))]))
  exact own_retN X69 hx hlk (t := .char) hret (by simp) (hb hby d11_24) (by decide) (by decide) (⟨(congrArg (fun z => some (Value.int z)) (own_nc (cf i) hb0 hb1)), rfl, e69⟩)

set_option maxRecDepth 65536 in
set_option maxHeartbeats 40000000 in
theorem sk10 (l : Launch) (Z : State) (a0 : Array Value) (hw : ∀ d ∈ tables_1, d.before a0 Z = true) (a1 : Addr) (cs : Int32) (h0 : Heap) (F_coder_a1 : Fld Z h0 a1 "java/lang/String" "coder" "B" (.int (1 : Int32))) (S_COMPACT_STRINGS : Sta Z h0 "java/lang/String" "COMPACT_STRINGS" "Z" (.int cs)) (hcs : ¬ cs = (0 : Int32)) :
    OPure l Z (⟨"java/lang/String", "coder", "()B"⟩ : MethodName) jdk_42_method_152_code 1 (some .byte) [] ({ frames := 0, cells := 0, slots := 0, locals := 0 } : Room) #[(.ref a1)] h0 (some (.int (1 : Int32))) := by
  refine own_body (plainFor_of_name pn_java_lang_String) (fun m => ef_6_R m a1) ?_
  intro p e s m below meth c T0 hx hby hml hown hnm hret hlk hZ X0 e0
  have hown : s.vm.findClass "java/lang/String" = some m.cls := hown
  have hml : c.maxLocals = 1 := hml
  show OGo p e below s _ _ (T0.setTop (mkF m 0 #[.val (.ref a1)] []))
  obtain ⟨T70, X70, e70, st70⟩ := getS2 X0 hx hZ hown (host := "") (Or.inl (hw _ (List.mem_of_getElem? (i := 36) rfl))) Via.refl e0 S_COMPACT_STRINGS (g := (mkF m 0 #[.val (.ref a1)] [])) rfl (hb hby d6_0)
  refine own_st st70 ?_
  show OGo p e below s _ _ (T70.setTop (mkF m 3 #[.val (.ref a1)] [(.int cs)]))
  refine own_st (fun tt zk => XS.ifNo X70.here hx rfl (hb hby d6_3) rfl ((if0 _ _).trans (feq (hcs)).1) zk) ?_
  show OGo p e below s _ _ (T70.setTop (mkF m 6 #[.val (.ref a1)] []))
  refine own_st (fun tt zk => XS.aloadN X70.here hx rfl (hb hby d6_6) rfl rfl zk) ?_
  show OGo p e below s _ _ (T70.setTop (mkF m 7 #[.val (.ref a1)] [(.ref a1)]))
  obtain ⟨T71, X71, e71, st71⟩ := getF X70 hx hZ hown (host := "") (Or.inl (hw _ (List.mem_of_getElem? (i := 21) rfl))) Via.refl e70 F_coder_a1 (g := (mkF m 7 #[.val (.ref a1)] [(.ref a1)])) rfl rfl (hb hby d6_7)
  refine own_st st71 ?_
  show OGo p e below s _ _ (T71.setTop (mkF m 10 #[.val (.ref a1)] [(.int (1 : Int32))]))
  refine own_st (fun tt zk => XS.goto X71.here hx rfl (pc0 := 10) (pc' := 14) rfl (hb hby d6_10) (by decide) (by decide) zk) ?_
  show OGo p e below s _ _ (T71.setTop (mkF m 14 #[.val (.ref a1)] [(.int (1 : Int32))]))
  exact own_retN X71 hx hlk (t := .byte) hret (by simp) (hb hby d6_14) (by decide) (by decide) (⟨rfl, rfl, e71⟩)

set_option maxRecDepth 65536 in
set_option maxHeartbeats 40000000 in
theorem sk11 (l : Launch) (Z : State) (a0 : Array Value) (hw : ∀ d ∈ tables_1, d.before a0 Z = true) (a1 : Addr) (t1 : Addr) (n : Nat) (cf : Nat → Int32) (cs : Int32) (h0 : Heap) (E_a1 : Exa Z h0 a1 "java/lang/String") (F_coder_a1 : Fld Z h0 a1 "java/lang/String" "coder" "B" (.int (1 : Int32))) (F_value_a1 : Fld Z h0 a1 "java/lang/String" "value" "[B" (.ref t1)) (A_t1 : OAr Z h0 t1 .byte (2 * n) (own_ub cf)) (S_COMPACT_STRINGS : Sta Z h0 "java/lang/String" "COMPACT_STRINGS" "Z" (.int cs)) (hcs : ¬ cs = (0 : Int32)) (hn : n ≤ 3) :
    OPure l Z (⟨"java/lang/String", "length", "()I"⟩ : MethodName) jdk_42_method_54_code 1 (some .int) [] ({ frames := 1, cells := 0, slots := 0, locals := 13 } : Room) #[(.ref a1)] h0 (some (.int (Int32.ofNat n))) := by
  refine own_body (plainFor_of_name pn_java_lang_String) (fun m => ef_5_R m a1) ?_
  intro p e s m below meth c T0 hx hby hml hown hnm hret hlk hZ X0 e0
  have hown : s.vm.findClass "java/lang/String" = some m.cls := hown
  have hml : c.maxLocals = 1 := hml
  show OGo p e below s _ _ (T0.setTop (mkF m 0 #[.val (.ref a1)] []))
  refine own_st (fun tt zk => XS.aloadN X0.here hx rfl (hb hby d5_0) rfl rfl zk) ?_
  show OGo p e below s _ _ (T0.setTop (mkF m 1 #[.val (.ref a1)] [(.ref a1)]))
  obtain ⟨T72, X72, e72, st72⟩ := getF X0 hx hZ hown (host := "") (Or.inl (hw _ (List.mem_of_getElem? (i := 20) rfl))) Via.refl e0 F_value_a1 (g := (mkF m 1 #[.val (.ref a1)] [(.ref a1)])) rfl rfl (hb hby d5_1)
  refine own_st st72 ?_
  show OGo p e below s _ _ (T72.setTop (mkF m 4 #[.val (.ref a1)] [(.ref t1)]))
  obtain ⟨cl73, Ar73, Sz73, -⟩ := id A_t1
  refine own_st (X72.arraylength hx (by rw [e72]; exact Ar73.1) (State.isArrayOf_alike hZ.alike Ar73.2.1) (g := (mkF m 4 #[.val (.ref a1)] [(.ref t1)])) rfl rfl (hb hby d5_4)) ?_
  rw [Sz73, own_len (2 * n)]
  show OGo p e below s _ _ (T72.setTop (mkF m 5 #[.val (.ref a1)] [(.int (Int32.ofNat (2 * n)))]))
  refine own_st (fun tt zk => XS.aloadN X72.here hx rfl (hb hby d5_5) rfl rfl zk) ?_
  show OGo p e below s _ _ (T72.setTop (mkF m 6 #[.val (.ref a1)] [(.ref a1), (.int (Int32.ofNat (2 * n)))]))
  obtain ⟨T74, X74, e74, st74⟩ := own_callVP X72 hx hZ (y := (⟨"java/lang/String", "coder", "()B"⟩ : MethodName)) (z := (⟨"java/lang/String", "coder", "()B"⟩ : MethodName)) (W := 1) hown (hw _ (List.mem_of_getElem? (i := 31) rfl)) (hw _ (List.mem_of_getElem? (i := 32) rfl)) (notFace_of_selects (args := #[]) (mvT hZ (hw _ (List.mem_of_getElem? (i := 34) rfl)))) (hw _ (List.mem_of_getElem? (i := 34) rfl)) (hw _ (List.mem_of_getElem? (i := 33) rfl)) (hw _ (List.mem_of_getElem? (i := 35) rfl)) (hw _ (List.mem_of_getElem? (i := 2) rfl)) (by decide) (sk10 l Z a0 hw a1 cs h0 F_coder_a1 S_COMPACT_STRINGS hcs) (by decide) (by decide) E_a1 (g := (mkF m 6 #[.val (.ref a1)] [(.ref a1), (.int (Int32.ofNat (2 * n)))])) rfl (by rw [hml]; rfl) (argsL := []) (rest := [(.int (Int32.ofNat (2 * n)))]) (lenOf pd_4 rfl) rfl (by show 2 * 0 + _ ≤ _; exact Nat.le_of_eq rfl) (hb hby d5_6) rfl e72 (by decide) (by decide)
  refine own_st st74 ?_
  show OGo p e below s _ _ (T74.setTop (mkF m 9 #[.val (.ref a1)] [(.int (1 : Int32)), (.int (Int32.ofNat (2 * n)))]))
  refine own_st (fun tt zk => XS.ishr X74.here hx rfl (hb hby d5_9) rfl zk) ?_
  show OGo p e below s _ _ (T74.setTop (mkF m 10 #[.val (.ref a1)] [(.int ((Int32.ofNat (2 * n)) >>> ((1 : Int32) &&& 31)))]))
  rw [own_shr1 n (by omega)]
  exact own_retI X74 hx hlk hret (hb hby d5_10) (by decide) (by decide) (⟨rfl, rfl, e74⟩)
theorem own_wS {Z : State} {a0 : Array Value} (hw : ∀ d ∈ tables_1, d.before a0 Z = true) : ∀ a ∈ Bundle.stringAtoms, a.before a0 Z = true := fun a ha => by
  simp only [Bundle.stringAtoms, List.mem_cons, List.not_mem_nil, or_false] at ha
  rcases ha with rfl | rfl | rfl | rfl | rfl | rfl | rfl
  · exact hw _ (List.mem_of_getElem? (i := 2) rfl)
  · exact hw _ (List.mem_of_getElem? (i := 1) rfl)
  · exact hw _ (List.mem_of_getElem? (i := 15) rfl)
  · exact hw _ (List.mem_of_getElem? (i := 16) rfl)
  · exact hw _ (List.mem_of_getElem? (i := 17) rfl)
  · exact hw _ (List.mem_of_getElem? (i := 18) rfl)
  · exact hw _ (List.mem_of_getElem? (i := 19) rfl)
def own_EL : List (String × Nat) := [("java/lang/String", 7)]
theorem own_EW {Z : State} {a0 : Array Value} (hw : ∀ d ∈ tables_1, d.before a0 Z = true) : EW Z a0 own_EL := EW.cons (hw _ (List.mem_of_getElem? (i := 14) rfl)) (by decide) EW.nil
def own_c0 : Nat → Int32 := fun _ => 0
theorem d2_8 : decode jdk_42_method_149_code 8 = .ok (.aload_n 0, 1) := by decide +kernel
theorem d2_9 : decode jdk_42_method_149_code 9 = .ok (.ldc 7, 2) := by decide +kernel
theorem d2_11 : decode jdk_42_method_149_code 11 = .ok (.getfield 9, 3) := by decide +kernel
theorem d2_14 : decode jdk_42_method_149_code 14 = .ok (.putfield 9, 3) := by decide +kernel
theorem d2_17 : decode jdk_42_method_149_code 17 = .ok (.aload_n 0, 1) := by decide +kernel
theorem d2_18 : decode jdk_42_method_149_code 18 = .ok (.ldc 7, 2) := by decide +kernel
theorem d2_20 : decode jdk_42_method_149_code 20 = .ok (.getfield 15, 3) := by decide +kernel
theorem d2_23 : decode jdk_42_method_149_code 23 = .ok (.putfield 15, 3) := by decide +kernel
theorem d2_26 : decode jdk_42_method_149_code 26 = .ok (.return_, 1) := by decide +kernel
set_option maxRecDepth 65536 in
set_option maxHeartbeats 40000000 in
theorem se4 (l : Launch) (Z : State) (a0 : Array Value) (hw : ∀ d ∈ tables_1, d.before a0 Z = true) (a1 : Addr) (a2 : Addr) (h0 : Heap) (n0 : Nat) (Z0 : n0 ≤ h0.size) (old_a1 : n0 ≤ a1) (E_a1 : Exa Z h0 a1 "java/lang/String") (F_coder_a1 : Fld Z h0 a1 "java/lang/String" "coder" "B" (.int 0)) (F_value_a1 : Fld Z h0 a1 "java/lang/String" "value" "[B" .null) :
    OMetW l Z own_EL (⟨"java/lang/String", "<init>", "([CIILjava/lang/Void;)V"⟩ : MethodName) jdk_42_method_149_code 6 none [] ({ frames := 1, cells := 4, slots := 8, locals := 17 } : Room) #[(.ref a1), (.ref a2), (.int (0 : Int32)), (.int (0 : Int32)), .null] h0 (fun v h' L => ∃ t : Addr, v = none ∧ Fr n0 L ∧ Keep h0 h' [a1] ∧ Exa Z h' a1 "java/lang/String" ∧ Fld Z h' a1 "java/lang/String" "coder" "B" (.int 0) ∧ Fld Z h' a1 "java/lang/String" "value" "[B" (.ref t) ∧ OAr Z h' t .byte 0 (fun j => .int (own_lb (own_c0 j)))) := by
  refine own_bodyW (plainFor_of_name pn_java_lang_String) (fun m => ef_2_RRII0 m a1 a2 (0 : Int32) (0 : Int32)) ?_
  intro p e s m below meth c T0 hx hby hml hown hnm hret hlk hZ X0 e0 es hS CH
  have hk := Nat.le_refl h0.size
  have hEL := own_EW hw
  have hown : s.vm.findClass "java/lang/String" = some m.cls := hown
  have hml : c.maxLocals = 6 := hml
  show OGoW p e below s _ Z _ _ (T0.setTop (mkF m 0 #[.val (.ref a1), .val (.ref a2), .val (.int (0 : Int32)), .val (.int (0 : Int32)), .val .null, .unset] []))
  have N0 := Fr.nil n0
  have K0 := Keep.refl h0 [a1]
  refine own_stW (fun tt zk => XS.aloadN X0.here hx rfl (hb hby d2_0) rfl rfl zk) ?_
  show OGoW p e below s _ Z _ _ (T0.setTop (mkF m 1 #[.val (.ref a1), .val (.ref a2), .val (.int (0 : Int32)), .val (.int (0 : Int32)), .val .null, .unset] [(.ref a1)]))
  obtain ⟨T75, X75, e75, st75⟩ := initO X0 hx hZ hown (hw _ (List.mem_of_getElem? (i := 11) rfl)) (hw _ (List.mem_of_getElem? (i := 12) rfl)) (hw _ (List.mem_of_getElem? (i := 13) rfl)) e0 (g := (mkF m 1 #[.val (.ref a1), .val (.ref a2), .val (.int (0 : Int32)), .val (.int (0 : Int32)), .val .null, .unset] [(.ref a1)])) rfl (by rw [hml]; rfl) rfl (hb hby d2_1) (by decide) (W := 0) (by show 2 * 0 + _ ≤ _; exact Nat.le_of_eq rfl) (by decide)
  refine own_stW st75 ?_
  show OGoW p e below s _ Z _ _ (T75.setTop (mkF m 4 #[.val (.ref a1), .val (.ref a2), .val (.int (0 : Int32)), .val (.int (0 : Int32)), .val .null, .unset] []))
  refine own_stW (fun tt zk => XS.iloadN X75.here hx rfl (hb hby d2_4) rfl zk) ?_
  show OGoW p e below s _ Z _ _ (T75.setTop (mkF m 5 #[.val (.ref a1), .val (.ref a2), .val (.int (0 : Int32)), .val (.int (0 : Int32)), .val .null, .unset] [(.int (0 : Int32))]))
  refine own_stW (fun tt zk => XS.ifNo X75.here hx rfl (hb hby d2_5) rfl ((if0 _ _).trans (teq ((by decide : (0 : Int32) = (0 : Int32)))).2) zk) ?_
  show OGoW p e below s _ Z _ _ (T75.setTop (mkF m 8 #[.val (.ref a1), .val (.ref a2), .val (.int (0 : Int32)), .val (.int (0 : Int32)), .val .null, .unset] []))
  refine own_stW (fun tt zk => XS.aloadN X75.here hx rfl (hb hby d2_8) rfl rfl zk) ?_
  show OGoW p e below s _ Z _ _ (T75.setTop (mkF m 9 #[.val (.ref a1), .val (.ref a2), .val (.int (0 : Int32)), .val (.int (0 : Int32)), .val .null, .unset] [(.ref a1)]))
  obtain ⟨lx, T76, hp76, kc76, lt, kk76, X76, e76, Ex76, hS, hk, hZ, hown, E_lx, F_coder_lx, F_value_lx, V76, lx76, lt76, CH76, Lt76, sep76, st76⟩ := ldcCH X75 hx hZ hown (hw _ (List.mem_of_getElem? (i := 14) rfl)) (own_wS hw) e75 hS hk hEL (by decide) CH.1 (vs := []) (z := (0 : Int32)) ⟨by decide, by decide⟩ (by decide) (by decide) (g := (mkF m 9 #[.val (.ref a1), .val (.ref a2), .val (.int (0 : Int32)), .val (.int (0 : Int32)), .val .null, .unset] [(.ref a1)])) rfl (hb hby d2_9) (n := 0) (by decide) (by decide) (by decide) (by decide)
  have Z0 := Nat.le_trans Z0 Ex76.1
  have CH := CH.trans CH76
  have K0 := K0.ext Ex76
  have E_a1 := E_a1.ext Ex76
  have F_coder_a1 := F_coder_a1.ext Ex76
  have F_value_a1 := F_value_a1.ext Ex76
  refine own_stW st76 ?_
  show OGoW p e below s _ Z _ _ (T76.setTop (mkF m 11 #[.val (.ref a1), .val (.ref a2), .val (.int (0 : Int32)), .val (.int (0 : Int32)), .val .null, .unset] [(.ref lx), (.ref a1)]))
  have SF := own_safe_null (EL := own_EL) hZ.alike E_a1 F_value_a1
  have ne_a1_lx := (sep76 a1 SF).1
  have ne_a1_lt := (sep76 a1 SF).2
  have A_lt : OAr Z hp76 lt .byte 0 (fun j => .int (own_lb (own_c0 j))) := own_arv V76 (by decide) (fun j hj => absurd hj (Nat.not_lt_zero j))
  obtain ⟨T77, X77, e77, st77⟩ := getF X76 hx hZ hown (host := "") (Or.inl (hw _ (List.mem_of_getElem? (i := 20) rfl))) Via.refl e76 F_value_lx (g := (mkF m 11 #[.val (.ref a1), .val (.ref a2), .val (.int (0 : Int32)), .val (.int (0 : Int32)), .val .null, .unset] [(.ref lx), (.ref a1)])) rfl rfl (hb hby d2_11)
  refine own_stW st77 ?_
  show OGoW p e below s _ Z _ _ (T77.setTop (mkF m 14 #[.val (.ref a1), .val (.ref a2), .val (.int (0 : Int32)), .val (.int (0 : Int32)), .val .null, .unset] [(.ref lt), (.ref a1)]))
  have CHo := CH
  have lto := E_a1.lt
  obtain ⟨T78, hp78, X78, e78, Ww78, st78⟩ := putF X77 hx hZ hown (host := "") (Or.inl (hw _ (List.mem_of_getElem? (i := 20) rfl))) Via.refl e77 F_value_a1 E_a1 (Or.inr ⟨(hw _ (List.mem_of_getElem? (i := 16) rfl)), rfl, hnm⟩) (hw _ (List.mem_of_getElem? (i := 1) rfl)) (ty := (.array .byte)) (by decide) rfl rfl (g := (mkF m 14 #[.val (.ref a1), .val (.ref a2), .val (.int (0 : Int32)), .val (.int (0 : Int32)), .val .null, .unset] [(.ref lt), (.ref a1)])) rfl rfl (hb hby d2_14)
  have Nf78 := Fr.snoc X78 N0 old_a1
  have Z0 := Nat.le_trans Z0 (Keep.of_wr Ww78).1
  have hk := Nat.le_trans hk (Keep.of_wr Ww78).1
  have CH := CH.trans (CHr.wr Ww78 SF CH.1)
  have K0 := K0.wr Ww78 (Or.inl (List.mem_of_getElem? (i := 0) rfl))
  have E_a1 := E_a1.wr Ww78
  have F_coder_a1 := F_coder_a1.other Ww78 (Or.inr (slot_ne (Or.inr (hw _ (List.mem_of_getElem? (i := 17) rfl))) (Or.inr (hw _ (List.mem_of_getElem? (i := 16) rfl))) (by decide) (t := .byte) (t' := (.array .byte)) (by decide) (by decide)))
  have F_value_a1 := F_value_a1.same Ww78
  have A_lt := A_lt.other Ww78 (Ne.symm ne_a1_lt)
  refine own_stW st78 ?_
  show OGoW p e below s _ Z _ _ (T78.setTop (mkF m 17 #[.val (.ref a1), .val (.ref a2), .val (.int (0 : Int32)), .val (.int (0 : Int32)), .val .null, .unset] []))
  have SF := (CHr.wr Ww78 SF CHo.1).safe lto SF
  refine own_stW (fun tt zk => XS.aloadN X78.here hx rfl (hb hby d2_17) rfl rfl zk) ?_
  show OGoW p e below s _ Z _ _ (T78.setTop (mkF m 18 #[.val (.ref a1), .val (.ref a2), .val (.int (0 : Int32)), .val (.int (0 : Int32)), .val .null, .unset] [(.ref a1)]))
  have lto := E_a1.lt
  obtain ⟨ly, T79, hp79, kc79, lu, kk79, X79, e79, Ex79, hS, hk, hZ, hown, E_ly, F_coder_ly, F_value_ly, V79, lx79, lt79, CH79, Lt79, sep79, st79⟩ := ldcCH X78 hx hZ hown (hw _ (List.mem_of_getElem? (i := 14) rfl)) (own_wS hw) e78 hS hk hEL (by decide) CH.1 (vs := []) (z := (0 : Int32)) ⟨by decide, by decide⟩ (by decide) (by decide) (g := (mkF m 18 #[.val (.ref a1), .val (.ref a2), .val (.int (0 : Int32)), .val (.int (0 : Int32)), .val .null, .unset] [(.ref a1)])) rfl (hb hby d2_18) (n := 0) (by decide) (by decide) (by decide) (by decide)
  have Z0 := Nat.le_trans Z0 Ex79.1
  have CH := CH.trans CH79
  have K0 := K0.ext Ex79
  have E_a1 := E_a1.ext Ex79
  have F_coder_a1 := F_coder_a1.ext Ex79
  have F_value_a1 := F_value_a1.ext Ex79
  have A_lt := A_lt.ext Ex79
  refine own_stW st79 ?_
  show OGoW p e below s _ Z _ _ (T79.setTop (mkF m 20 #[.val (.ref a1), .val (.ref a2), .val (.int (0 : Int32)), .val (.int (0 : Int32)), .val .null, .unset] [(.ref ly), (.ref a1)]))
  have SF := CH79.safe lto SF
  have ne_a1_ly := (sep79 a1 SF).1
  obtain ⟨T80, X80, e80, st80⟩ := getF X79 hx hZ hown (host := "") (Or.inl (hw _ (List.mem_of_getElem? (i := 21) rfl))) Via.refl e79 F_coder_ly (g := (mkF m 20 #[.val (.ref a1), .val (.ref a2), .val (.int (0 : Int32)), .val (.int (0 : Int32)), .val .null, .unset] [(.ref ly), (.ref a1)])) rfl rfl (hb hby d2_20)
  refine own_stW st80 ?_
  show OGoW p e below s _ Z _ _ (T80.setTop (mkF m 23 #[.val (.ref a1), .val (.ref a2), .val (.int (0 : Int32)), .val (.int (0 : Int32)), .val .null, .unset] [(.int (0 : Int32)), (.ref a1)]))
  obtain ⟨T81, hp81, X81, e81, Ww81, st81⟩ := putFN X80 hx hZ hown (hw _ (List.mem_of_getElem? (i := 21) rfl)) Via.refl e80 F_coder_a1 E_a1 (Or.inr ⟨(hw _ (List.mem_of_getElem? (i := 17) rfl)), rfl, hnm⟩) (hw _ (List.mem_of_getElem? (i := 1) rfl)) (ty := .byte) (v' := (.int (0 : Int32))) (by decide) rfl (by decide) (g := (mkF m 23 #[.val (.ref a1), .val (.ref a2), .val (.int (0 : Int32)), .val (.int (0 : Int32)), .val .null, .unset] [(.int (0 : Int32)), (.ref a1)])) rfl rfl (hb hby d2_23)
  have Nf81 := Fr.snoc X81 Nf78 old_a1
  have Z0 := Nat.le_trans Z0 (Keep.of_wr Ww81).1
  have hk := Nat.le_trans hk (Keep.of_wr Ww81).1
  have CH := CH.trans (CHr.wr Ww81 SF CH.1)
  have K0 := K0.wr Ww81 (Or.inl (List.mem_of_getElem? (i := 0) rfl))
  have E_a1 := E_a1.wr Ww81
  have F_coder_a1 := F_coder_a1.same Ww81
  have F_value_a1 := F_value_a1.other Ww81 (Or.inr (slot_ne (Or.inr (hw _ (List.mem_of_getElem? (i := 16) rfl))) (Or.inr (hw _ (List.mem_of_getElem? (i := 17) rfl))) (by decide) (t := (.array .byte)) (t' := .byte) (by decide) (by decide)))
  have A_lt := A_lt.other Ww81 (Ne.symm ne_a1_lt)
  refine own_stW st81 ?_
  show OGoW p e below s _ Z _ _ (T81.setTop (mkF m 26 #[.val (.ref a1), .val (.ref a2), .val (.int (0 : Int32)), .val (.int (0 : Int32)), .val .null, .unset] []))
  exact own_retWV X81 hx hlk hret (hb hby d2_26) (by decide) (by decide) hS e81 es hk hZ hEL CH (⟨lt, rfl, Nf81, (by rw [e81]; exact K0), (by rw [e81]; exact E_a1), (by rw [e81]; exact F_coder_a1), (by rw [e81]; exact F_value_a1), (by rw [e81]; exact A_lt)⟩)

set_option maxRecDepth 65536 in
set_option maxHeartbeats 40000000 in
theorem se5 (l : Launch) (Z : State) (a0 : Array Value) (hw : ∀ d ∈ tables_1, d.before a0 Z = true) (a1 : Addr) (a2 : Addr) (h0 : Heap) (n0 : Nat) (Z0 : n0 ≤ h0.size) (old_a1 : n0 ≤ a1) (E_a1 : Exa Z h0 a1 "java/lang/String") (F_coder_a1 : Fld Z h0 a1 "java/lang/String" "coder" "B" (.int 0)) (F_value_a1 : Fld Z h0 a1 "java/lang/String" "value" "[B" .null) (gf : Nat → Value) (A_a2 : OAr Z h0 a2 .char 0 gf) :
    OMetW l Z own_EL (⟨"java/lang/String", "<init>", "([C)V"⟩ : MethodName) jdk_42_method_3_code 2 none [] ({ frames := 2, cells := 4, slots := 8, locals := 40 } : Room) #[(.ref a1), (.ref a2)] h0 (fun v h' L => ∃ t : Addr, v = none ∧ Fr n0 L ∧ Keep h0 h' [a1] ∧ Exa Z h' a1 "java/lang/String" ∧ Fld Z h' a1 "java/lang/String" "coder" "B" (.int 0) ∧ Fld Z h' a1 "java/lang/String" "value" "[B" (.ref t) ∧ OAr Z h' t .byte 0 (fun j => .int (own_lb (own_c0 j)))) := by
  refine own_bodyW (plainFor_of_name pn_java_lang_String) (fun m => ef_1_RR m a1 a2) ?_
  intro p e s m below meth c T0 hx hby hml hown hnm hret hlk hZ X0 e0 es hS CH
  have hk := Nat.le_refl h0.size
  have hEL := own_EW hw
  have hown : s.vm.findClass "java/lang/String" = some m.cls := hown
  have hml : c.maxLocals = 2 := hml
  show OGoW p e below s _ Z _ _ (T0.setTop (mkF m 0 #[.val (.ref a1), .val (.ref a2)] []))
  have N0 := Fr.nil n0
  have K0 := Keep.refl h0 [a1]
  refine own_stW (fun tt zk => XS.aloadN X0.here hx rfl (hb hby d1_0) rfl rfl zk) ?_
  show OGoW p e below s _ Z _ _ (T0.setTop (mkF m 1 #[.val (.ref a1), .val (.ref a2)] [(.ref a1)]))
  refine own_stW (fun tt zk => XS.aloadN X0.here hx rfl (hb hby d1_1) rfl rfl zk) ?_
  show OGoW p e below s _ Z _ _ (T0.setTop (mkF m 2 #[.val (.ref a1), .val (.ref a2)] [(.ref a2), (.ref a1)]))
  refine own_stW (fun tt zk => XS.iconst X0.here hx rfl (hb hby d1_2) zk) ?_
  show OGoW p e below s _ Z _ _ (T0.setTop (mkF m 3 #[.val (.ref a1), .val (.ref a2)] [(.int (0 : Int32)), (.ref a2), (.ref a1)]))
  refine own_stW (fun tt zk => XS.aloadN X0.here hx rfl (hb hby d1_3) rfl rfl zk) ?_
  show OGoW p e below s _ Z _ _ (T0.setTop (mkF m 4 #[.val (.ref a1), .val (.ref a2)] [(.ref a2), (.int (0 : Int32)), (.ref a2), (.ref a1)]))
  obtain ⟨cl82, Ar82, Sz82, -⟩ := id A_a2
  refine own_stW (X0.arraylength hx (by rw [e0]; exact Ar82.1) (State.isArrayOf_alike hZ.alike Ar82.2.1) (g := (mkF m 4 #[.val (.ref a1), .val (.ref a2)] [(.ref a2), (.int (0 : Int32)), (.ref a2), (.ref a1)])) rfl rfl (hb hby d1_4)) ?_
  rw [Sz82, (by decide : Nat.toInt32 0 = (0 : Int32))]
  show OGoW p e below s _ Z _ _ (T0.setTop (mkF m 5 #[.val (.ref a1), .val (.ref a2)] [(.int (0 : Int32)), (.int (0 : Int32)), (.ref a2), (.ref a1)]))
  refine own_stW (fun tt zk => XS.aconstNull X0.here hx rfl (hb hby d1_5) zk) ?_
  show OGoW p e below s _ Z _ _ (T0.setTop (mkF m 6 #[.val (.ref a1), .val (.ref a2)] [.null, (.int (0 : Int32)), (.int (0 : Int32)), (.ref a2), (.ref a1)]))
  obtain ⟨_, T83, Lc83, X83, hQ83, hS, hZ, hown, CH83, st83⟩ := own_callIW X0 hx hZ hS hk hEL CH.1 (y := (⟨"java/lang/String", "<init>", "([CIILjava/lang/Void;)V"⟩ : MethodName)) (W := 0) rfl hown (hw _ (List.mem_of_getElem? (i := 7) rfl)) (hw _ (List.mem_of_getElem? (i := 8) rfl)) (hw _ (List.mem_of_getElem? (i := 10) rfl)) (hw _ (List.mem_of_getElem? (i := 2) rfl)) (by decide) (se4 l Z a0 hw a1 a2 h0 n0 Z0 old_a1 E_a1 F_coder_a1 F_value_a1) (by decide) (by decide) (a := a1) (g := (mkF m 6 #[.val (.ref a1), .val (.ref a2)] [.null, (.int (0 : Int32)), (.int (0 : Int32)), (.ref a2), (.ref a1)])) rfl (by rw [hml]; rfl) (argsL := [(.ref a2), (.int (0 : Int32)), (.int (0 : Int32)), .null]) (rest := []) (lenOf pd_3 rfl) rfl (by show 2 * 0 + _ ≤ _; exact Nat.le_of_eq rfl) (hb hby d1_6) rfl e0 (by decide) (by decide)
  have hk := Nat.le_refl T83.heap.size
  have CH := CH.trans CH83
  obtain ⟨lt, rfl, Nq, Kq, E_a1, F_coder_a1, F_value_a1, A_lt⟩ := hQ83
  have K0 := K0.trans Kq (allS (Or.inl (List.mem_of_getElem? (i := 0) rfl)) all0)
  have N1 := Fr.app N0 Nq
  refine own_stW st83 ?_
  show OGoW p e below s _ Z _ _ (T83.setTop (mkF m 9 #[.val (.ref a1), .val (.ref a2)] []))
  exact own_retWV X83 hx hlk hret (hb hby d1_9) (by decide) (by decide) hS rfl es hk hZ hEL CH (⟨lt, rfl, N1, K0, E_a1, F_coder_a1, F_value_a1, A_lt⟩)
def own_okb (c : Int32) : Bool := if c = 9 then true else if c < 32 then false else if c = 127 then false else if (255 : Int32) < c then false else true
def own_from (cf : Nat → Int32) (i : Nat) : Nat → Bool
  | 0 => true
  | k + 1 => own_okb (cf i) && own_from cf (i + 1) k
theorem own_ok1 {c : Int32} (h : (255 : Int32) < c) : own_okb c = false := by
  have e : (255 : Int32).toInt = 255 := by decide
  have e9 : (9 : Int32).toInt = 9 := by decide
  have e32 : (32 : Int32).toInt = 32 := by decide
  have h' := h
  rw [Int32.lt_iff_toInt_lt, e] at h'
  have n9 : ¬ c = 9 := fun q => by rw [q] at h'; omega
  have n32 : ¬ c < 32 := fun q => by rw [Int32.lt_iff_toInt_lt] at q; omega
  simp [own_okb, n9, n32, h]
theorem own_ok2 {c : Int32} (h : c = 127) : own_okb c = false := by subst h; decide
theorem own_ok3 {c : Int32} (h1 : ¬ (255 : Int32) < c) (h2 : ¬ c = 127) (h3 : ¬ c < 32) : own_okb c = true := by simp [own_okb, h1, h2, h3]
theorem own_ok4 {c : Int32} (h : c = 9) : own_okb c = true := by subst h; decide
theorem own_ok5 {c : Int32} (h3 : c < 32) (h : ¬ c = 9) : own_okb c = false := by simp [own_okb, h3, h]
theorem own_obf {b : Bool} (h : ¬ b = true) : OB b = 0 := by cases b <;> simp_all [OB]
theorem own_obt {b : Bool} (h : b = true) : OB b = 1 := by subst h; rfl
theorem pn_com_example_plain_keys_plainkeys_server_HttpGrammarIsFieldValuePinLaw : plainName "com/example/plain_keys/plainkeys/server/HttpGrammarIsFieldValuePinLaw" = true := by first | (simp [plainName, overriddenIn]; done) | decide +kernel
theorem ef_10_I (m : MethodId) (x0 : Int32) : entryFrame m #[(.int x0)] 1 = mkF m 0 #[.val (.int x0)] [] := by first | (simp [entryFrame, mkF, argsToLocals, Value.category]; done) | rfl
theorem d10_0 : decode method_2_code 0 = .ok (.iload_n 0, 1) := by decide +kernel
theorem d10_1 : decode method_2_code 1 = .ok (.bipush 9, 2) := by decide +kernel
theorem d10_3 : decode method_2_code 3 = .ok (.if_icmp .ne 5, 3) := by decide +kernel
theorem d10_6 : decode method_2_code 6 = .ok (.iconst 1, 1) := by decide +kernel
theorem d10_7 : decode method_2_code 7 = .ok (.ireturn, 1) := by decide +kernel
theorem d10_8 : decode method_2_code 8 = .ok (.iload_n 0, 1) := by decide +kernel
theorem d10_9 : decode method_2_code 9 = .ok (.bipush 32, 2) := by decide +kernel
theorem d10_11 : decode method_2_code 11 = .ok (.if_icmp .ge 5, 3) := by decide +kernel
theorem d10_14 : decode method_2_code 14 = .ok (.iconst 0, 1) := by decide +kernel
theorem d10_15 : decode method_2_code 15 = .ok (.ireturn, 1) := by decide +kernel
theorem d10_16 : decode method_2_code 16 = .ok (.iload_n 0, 1) := by decide +kernel
theorem d10_17 : decode method_2_code 17 = .ok (.bipush 127, 2) := by decide +kernel
theorem d10_19 : decode method_2_code 19 = .ok (.if_icmp .ne 5, 3) := by decide +kernel
theorem d10_22 : decode method_2_code 22 = .ok (.iconst 0, 1) := by decide +kernel
theorem d10_23 : decode method_2_code 23 = .ok (.ireturn, 1) := by decide +kernel
theorem d10_24 : decode method_2_code 24 = .ok (.iload_n 0, 1) := by decide +kernel
theorem d10_25 : decode method_2_code 25 = .ok (.sipush 255, 3) := by decide +kernel
theorem d10_28 : decode method_2_code 28 = .ok (.if_icmp .gt 7, 3) := by decide +kernel
theorem d10_35 : decode method_2_code 35 = .ok (.iconst 0, 1) := by decide +kernel
theorem d10_36 : decode method_2_code 36 = .ok (.ireturn, 1) := by decide +kernel
theorem d10_31 : decode method_2_code 31 = .ok (.iconst 1, 1) := by decide +kernel
theorem d10_32 : decode method_2_code 32 = .ok (.goto 4, 3) := by decide +kernel
set_option maxRecDepth 65536 in
set_option maxHeartbeats 40000000 in
theorem ro (l : Launch) (Z : State) (a0 : Array Value) (hw : ∀ d ∈ tables_1, d.before a0 Z = true) (q1 : Int32) (r : Int32) (h0 : Heap) (hr : OB (own_okb q1) = r) :
    OPure l Z (⟨"com/example/plain_keys/plainkeys/server/HttpGrammarIsFieldValuePinLaw", "ok", "(C)Z"⟩ : MethodName) method_2_code 1 (some .boolean) [] ({ frames := 0, cells := 0, slots := 0, locals := 0 } : Room) #[(.int q1)] h0 (some (.int r)) := by
  refine own_body (plainFor_of_name pn_com_example_plain_keys_plainkeys_server_HttpGrammarIsFieldValuePinLaw) (fun m => ef_10_I m q1) ?_
  intro p e s m below meth c T0 hx hby hml hown hnm hret hlk hZ X0 e0
  have hown : s.vm.findClass "com/example/plain_keys/plainkeys/server/HttpGrammarIsFieldValuePinLaw" = some m.cls := hown
  have hml : c.maxLocals = 1 := hml
  show OGo p e below s _ _ (T0.setTop (mkF m 0 #[.val (.int q1)] []))
  refine own_st (fun tt zk => XS.iloadN X0.here hx rfl (hb hby d10_0) rfl zk) ?_
  show OGo p e below s _ _ (T0.setTop (mkF m 1 #[.val (.int q1)] [(.int q1)]))
  refine own_st (fun tt zk => XS.bipush X0.here hx rfl (hb hby d10_1) zk) ?_
  show OGo p e below s _ _ (T0.setTop (mkF m 3 #[.val (.int q1)] [(.int (9 : Int32)), (.int q1)]))
  by_cases hc3 : q1 = (9 : Int32)
  · refine own_st (fun tt zk => XS.icmpNo X0.here hx rfl (hb hby d10_3) rfl (teq (hc3)).2 zk) ?_
    show OGo p e below s _ _ (T0.setTop (mkF m 6 #[.val (.int q1)] []))
    refine own_st (fun tt zk => XS.iconst X0.here hx rfl (hb hby d10_6) zk) ?_
    show OGo p e below s _ _ (T0.setTop (mkF m 7 #[.val (.int q1)] [(.int (1 : Int32))]))
    exact own_retN X0 hx hlk (t := .boolean) hret (by simp) (hb hby d10_7) (by decide) (by decide) (⟨by rw [own_b1, ← hr]; simp [OB, own_okb, hc3], rfl, e0⟩)
  · refine own_st (fun tt zk => XS.icmpYes X0.here hx rfl (pc0 := 3) (pc' := 8) rfl (hb hby d10_3) rfl (feq (hc3)).2 (by decide) (by decide) zk) ?_
    show OGo p e below s _ _ (T0.setTop (mkF m 8 #[.val (.int q1)] []))
    refine own_st (fun tt zk => XS.iloadN X0.here hx rfl (hb hby d10_8) rfl zk) ?_
    show OGo p e below s _ _ (T0.setTop (mkF m 9 #[.val (.int q1)] [(.int q1)]))
    refine own_st (fun tt zk => XS.bipush X0.here hx rfl (hb hby d10_9) zk) ?_
    show OGo p e below s _ _ (T0.setTop (mkF m 11 #[.val (.int q1)] [(.int (32 : Int32)), (.int q1)]))
    by_cases hc11 : q1 < (32 : Int32)
    · refine own_st (fun tt zk => XS.icmpNo X0.here hx rfl (hb hby d10_11) rfl (tlt (hc11)).2.1 zk) ?_
      show OGo p e below s _ _ (T0.setTop (mkF m 14 #[.val (.int q1)] []))
      refine own_st (fun tt zk => XS.iconst X0.here hx rfl (hb hby d10_14) zk) ?_
      show OGo p e below s _ _ (T0.setTop (mkF m 15 #[.val (.int q1)] [(.int (0 : Int32))]))
      exact own_retN X0 hx hlk (t := .boolean) hret (by simp) (hb hby d10_15) (by decide) (by decide) (⟨by rw [own_b0, ← hr]; simp [OB, own_okb, hc3, hc11], rfl, e0⟩)
    · refine own_st (fun tt zk => XS.icmpYes X0.here hx rfl (pc0 := 11) (pc' := 16) rfl (hb hby d10_11) rfl (flt (hc11)).2.1 (by decide) (by decide) zk) ?_
      show OGo p e below s _ _ (T0.setTop (mkF m 16 #[.val (.int q1)] []))
      refine own_st (fun tt zk => XS.iloadN X0.here hx rfl (hb hby d10_16) rfl zk) ?_
      show OGo p e below s _ _ (T0.setTop (mkF m 17 #[.val (.int q1)] [(.int q1)]))
      refine own_st (fun tt zk => XS.bipush X0.here hx rfl (hb hby d10_17) zk) ?_
      show OGo p e below s _ _ (T0.setTop (mkF m 19 #[.val (.int q1)] [(.int (127 : Int32)), (.int q1)]))
      by_cases hc19 : q1 = (127 : Int32)
      · refine own_st (fun tt zk => XS.icmpNo X0.here hx rfl (hb hby d10_19) rfl (teq (hc19)).2 zk) ?_
        show OGo p e below s _ _ (T0.setTop (mkF m 22 #[.val (.int q1)] []))
        refine own_st (fun tt zk => XS.iconst X0.here hx rfl (hb hby d10_22) zk) ?_
        show OGo p e below s _ _ (T0.setTop (mkF m 23 #[.val (.int q1)] [(.int (0 : Int32))]))
        exact own_retN X0 hx hlk (t := .boolean) hret (by simp) (hb hby d10_23) (by decide) (by decide) (⟨by rw [own_b0, ← hr]; simp [OB, own_okb, hc3, hc11, hc19], rfl, e0⟩)
      · refine own_st (fun tt zk => XS.icmpYes X0.here hx rfl (pc0 := 19) (pc' := 24) rfl (hb hby d10_19) rfl (feq (hc19)).2 (by decide) (by decide) zk) ?_
        show OGo p e below s _ _ (T0.setTop (mkF m 24 #[.val (.int q1)] []))
        refine own_st (fun tt zk => XS.iloadN X0.here hx rfl (hb hby d10_24) rfl zk) ?_
        show OGo p e below s _ _ (T0.setTop (mkF m 25 #[.val (.int q1)] [(.int q1)]))
        refine own_st (fun tt zk => XS.sipush X0.here hx rfl (hb hby d10_25) zk) ?_
        show OGo p e below s _ _ (T0.setTop (mkF m 28 #[.val (.int q1)] [(.int (255 : Int32)), (.int q1)]))
        by_cases hc28 : (255 : Int32) < q1
        · refine own_st (fun tt zk => XS.icmpYes X0.here hx rfl (pc0 := 28) (pc' := 35) rfl (hb hby d10_28) rfl (tlt (hc28)).2.2.1 (by decide) (by decide) zk) ?_
          show OGo p e below s _ _ (T0.setTop (mkF m 35 #[.val (.int q1)] []))
          refine own_st (fun tt zk => XS.iconst X0.here hx rfl (hb hby d10_35) zk) ?_
          show OGo p e below s _ _ (T0.setTop (mkF m 36 #[.val (.int q1)] [(.int (0 : Int32))]))
          exact own_retN X0 hx hlk (t := .boolean) hret (by simp) (hb hby d10_36) (by decide) (by decide) (⟨by rw [own_b0, ← hr]; simp [OB, own_okb, hc3, hc11, hc19, hc28], rfl, e0⟩)
        · refine own_st (fun tt zk => XS.icmpNo X0.here hx rfl (hb hby d10_28) rfl (flt (hc28)).2.2.1 zk) ?_
          show OGo p e below s _ _ (T0.setTop (mkF m 31 #[.val (.int q1)] []))
          refine own_st (fun tt zk => XS.iconst X0.here hx rfl (hb hby d10_31) zk) ?_
          show OGo p e below s _ _ (T0.setTop (mkF m 32 #[.val (.int q1)] [(.int (1 : Int32))]))
          refine own_st (fun tt zk => XS.goto X0.here hx rfl (pc0 := 32) (pc' := 36) rfl (hb hby d10_32) (by decide) (by decide) zk) ?_
          show OGo p e below s _ _ (T0.setTop (mkF m 36 #[.val (.int q1)] [(.int (1 : Int32))]))
          exact own_retN X0 hx hlk (t := .boolean) hret (by simp) (hb hby d10_36) (by decide) (by decide) (⟨by rw [own_b1, ← hr]; simp [OB, own_okb, hc3, hc11, hc19, hc28], rfl, e0⟩)
theorem own_st2 {z0 z1 : Value} {s2 : Slot} {v : Int32} (h : One s2) : storeLocals #[.val z0, .val z1, s2] 2 (.int v) = some #[.val z0, .val z1, .val (.int v)] := by
  rcases h with rfl | ⟨w, rfl, hw⟩
  · rfl
  · cases w <;> first | rfl | (simp [Value.category] at hw)
theorem d4_0 : decode prog_45_method_4_code 0 = .ok (.iconst 0, 1) := by decide +kernel
theorem d4_1 : decode prog_45_method_4_code 1 = .ok (.istore_n 1, 1) := by decide +kernel
theorem d4_2 : decode prog_45_method_4_code 2 = .ok (.iload_n 1, 1) := by decide +kernel
theorem d4_3 : decode prog_45_method_4_code 3 = .ok (.aload_n 0, 1) := by decide +kernel
theorem d4_4 : decode prog_45_method_4_code 4 = .ok (.invokevirtual 7, 3) := by decide +kernel
theorem pd_14 : parseMethodDescriptor "()I" = some ⟨[], some .int⟩ := by decide +kernel
theorem d4_7 : decode prog_45_method_4_code 7 = .ok (.if_icmp .ge 42, 3) := by decide +kernel
theorem d4_49 : decode prog_45_method_4_code 49 = .ok (.iconst 1, 1) := by decide +kernel
theorem d4_50 : decode prog_45_method_4_code 50 = .ok (.ireturn, 1) := by decide +kernel
theorem d4_10 : decode prog_45_method_4_code 10 = .ok (.aload_n 0, 1) := by decide +kernel
theorem d4_11 : decode prog_45_method_4_code 11 = .ok (.iload_n 1, 1) := by decide +kernel
theorem d4_12 : decode prog_45_method_4_code 12 = .ok (.invokevirtual 13, 3) := by decide +kernel
theorem pd_15 : parseMethodDescriptor "(I)C" = some ⟨[.int], some .char⟩ := by decide +kernel
theorem d4_15 : decode prog_45_method_4_code 15 = .ok (.istore_n 2, 1) := by decide +kernel
theorem d4_16 : decode prog_45_method_4_code 16 = .ok (.iload_n 2, 1) := by decide +kernel
theorem d4_17 : decode prog_45_method_4_code 17 = .ok (.sipush 255, 3) := by decide +kernel
theorem d4_20 : decode prog_45_method_4_code 20 = .ok (.if_icmp .gt 21, 3) := by decide +kernel
theorem d4_41 : decode prog_45_method_4_code 41 = .ok (.iconst 0, 1) := by decide +kernel
theorem d4_42 : decode prog_45_method_4_code 42 = .ok (.ireturn, 1) := by decide +kernel
theorem d4_23 : decode prog_45_method_4_code 23 = .ok (.iload_n 2, 1) := by decide +kernel
theorem d4_24 : decode prog_45_method_4_code 24 = .ok (.bipush 127, 2) := by decide +kernel
theorem d4_26 : decode prog_45_method_4_code 26 = .ok (.if_icmp .eq 15, 3) := by decide +kernel
theorem d4_29 : decode prog_45_method_4_code 29 = .ok (.iload_n 2, 1) := by decide +kernel
theorem d4_30 : decode prog_45_method_4_code 30 = .ok (.bipush 32, 2) := by decide +kernel
theorem d4_32 : decode prog_45_method_4_code 32 = .ok (.if_icmp .ge 11, 3) := by decide +kernel
theorem d4_43 : decode prog_45_method_4_code 43 = .ok (.iinc 1 1, 3) := by decide +kernel
theorem d4_46 : decode prog_45_method_4_code 46 = .ok (.goto (-44), 3) := by decide +kernel
theorem d4_35 : decode prog_45_method_4_code 35 = .ok (.iload_n 2, 1) := by decide +kernel
theorem d4_36 : decode prog_45_method_4_code 36 = .ok (.bipush 9, 2) := by decide +kernel
theorem d4_38 : decode prog_45_method_4_code 38 = .ok (.if_icmp .eq 5, 3) := by decide +kernel
theorem pn_com_example_plain_keys_plainkeys_server_HttpGrammar : plainName "com/example/plain_keys/plainkeys/server/HttpGrammar" = true := by first | (simp [plainName, overriddenIn]; done) | decide +kernel
theorem ef_4_R (m : MethodId) (x0 : Addr) : entryFrame m #[(.ref x0)] 3 = mkF m 0 #[.val (.ref x0), .unset, .unset] [] := by first | (simp [entryFrame, mkF, argsToLocals, Value.category]; done) | rfl
set_option maxRecDepth 65536 in
set_option maxHeartbeats 40000000 in
theorem riL (l : Launch) (Z : State) (a0 : Array Value) (hw : ∀ d ∈ tables_1, d.before a0 Z = true) (a1 : Addr) (t1 : Addr) (n : Nat) (cf : Nat → Int32) (cs : Int32) (fm : Value) (r : Int32) (h0 : Heap) (E_a1 : Exa Z h0 a1 "java/lang/String") (F_coder_a1 : Fld Z h0 a1 "java/lang/String" "coder" "B" (.int (0 : Int32))) (F_value_a1 : Fld Z h0 a1 "java/lang/String" "value" "[B" (.ref t1)) (A_t1 : OAr Z h0 t1 .byte n (fun j => .int (own_lb (cf j)))) (S_COMPACT_STRINGS : Sta Z h0 "java/lang/String" "COMPACT_STRINGS" "Z" (.int cs)) (S_SIOOBE_FORMATTER : Sta Z h0 "jdk/internal/util/Preconditions" "SIOOBE_FORMATTER" "Ljava/util/function/BiFunction;" fm) (hcs : ¬ cs = (0 : Int32)) (cat_fm : fm.category = 1) (ir_fm : fm.isRef = true) (hn : n ≤ 3) (hbd : ∀ j, j < n → 0 ≤ (cf j).toInt ∧ (cf j).toInt < 65536) (hle : ∀ j, j < n → ¬ (255 : Int32) < cf j) (hr : OB (own_from cf 0 n) = r) :
    OPure l Z (⟨"com/example/plain_keys/plainkeys/server/HttpGrammar", "isFieldValue", "(Ljava/lang/String;)Z"⟩ : MethodName) prog_45_method_4_code 3 (some .boolean) [] ({ frames := 4, cells := 0, slots := 0, locals := 53 } : Room) #[(.ref a1)] h0 (some (.int r)) := by
  refine own_body (plainFor_of_name pn_com_example_plain_keys_plainkeys_server_HttpGrammar) (fun m => ef_4_R m a1) ?_
  intro p e s m below meth c T0 hx hby hml hown hnm hret hlk hZ X0 e0
  have hown : s.vm.findClass "com/example/plain_keys/plainkeys/server/HttpGrammar" = some m.cls := hown
  have hml : c.maxLocals = 3 := hml
  show OGo p e below s _ _ (T0.setTop (mkF m 0 #[.val (.ref a1), .unset, .unset] []))
  refine own_st (fun tt zk => XS.iconst X0.here hx rfl (hb hby d4_0) zk) ?_
  show OGo p e below s _ _ (T0.setTop (mkF m 1 #[.val (.ref a1), .unset, .unset] [(.int (0 : Int32))]))
  refine own_st (fun tt zk => XS.istoreN X0.here hx rfl (hb hby d4_1) rfl (l' := #[.val (.ref a1), .val (.int (0 : Int32)), .unset]) rfl zk) ?_
  show OGo p e below s _ _ (T0.setTop (mkF m 2 #[.val (.ref a1), .val (.int (0 : Int32)), .unset] []))
  have loop : ∀ (k i : Nat) (TL : State) (s2 : Slot), i + k = n → One s2 → Stand p l e ({ frames := 4, cells := 0, slots := 0, locals := 53 } : Room) s m #[(.ref a1)] below meth c TL [] 0 0 → TL.heap = h0 → OB (own_from cf i k) = r → OGo p e below s ({ frames := 4, cells := 0, slots := 0, locals := 53 } : Room) (fun v' h' L => v' = some (.int r) ∧ L = [] ∧ h' = h0) (TL.setTop (mkF m 2 #[.val (.ref a1), .val (.int (Int32.ofNat i)), s2] [])) := by
    intro k
    induction k with
    | zero =>
      intro i TL s2 hi hs2 XL eL hrr
      obtain rfl : n = i := by omega
      show OGo p e below s _ _ (TL.setTop (mkF m 2 #[.val (.ref a1), .val (.int (Int32.ofNat n)), s2] []))
      refine own_st (fun tt zk => XS.iloadN XL.here hx rfl (hb hby d4_2) rfl zk) ?_
      show OGo p e below s _ _ (TL.setTop (mkF m 3 #[.val (.ref a1), .val (.int (Int32.ofNat n)), s2] [(.int (Int32.ofNat n))]))
      refine own_st (fun tt zk => XS.aloadN XL.here hx rfl (hb hby d4_3) rfl rfl zk) ?_
      show OGo p e below s _ _ (TL.setTop (mkF m 4 #[.val (.ref a1), .val (.int (Int32.ofNat n)), s2] [(.ref a1), (.int (Int32.ofNat n))]))
      obtain ⟨T84, X84, e84, st84⟩ := own_callVP XL hx hZ (y := (⟨"java/lang/String", "length", "()I"⟩ : MethodName)) (z := (⟨"java/lang/String", "length", "()I"⟩ : MethodName)) (W := 1) hown (hw _ (List.mem_of_getElem? (i := 26) rfl)) (hw _ (List.mem_of_getElem? (i := 27) rfl)) (notFace_of_selects (args := #[]) (mvT hZ (hw _ (List.mem_of_getElem? (i := 29) rfl)))) (hw _ (List.mem_of_getElem? (i := 29) rfl)) (hw _ (List.mem_of_getElem? (i := 28) rfl)) (hw _ (List.mem_of_getElem? (i := 30) rfl)) (hw _ (List.mem_of_getElem? (i := 2) rfl)) (by decide) (sc7 l Z a0 hw a1 t1 n cf cs h0 E_a1 F_coder_a1 F_value_a1 A_t1 S_COMPACT_STRINGS hcs) (by decide) (by decide) E_a1 (g := (mkF m 4 #[.val (.ref a1), .val (.int (Int32.ofNat n)), s2] [(.ref a1), (.int (Int32.ofNat n))])) rfl (by rw [hml]; rfl) (argsL := []) (rest := [(.int (Int32.ofNat n))]) (lenOf pd_14 rfl) rfl (by show 2 * 0 + _ ≤ _; exact Nat.le_of_eq rfl) (hb hby d4_4) rfl eL (by decide) (by decide)
      refine own_st st84 ?_
      show OGo p e below s _ _ (T84.setTop (mkF m 7 #[.val (.ref a1), .val (.int (Int32.ofNat n)), s2] [(.int (Int32.ofNat n)), (.int (Int32.ofNat n))]))
      refine own_st (fun tt zk => XS.icmpYes X84.here hx rfl (pc0 := 7) (pc' := 49) rfl (hb hby d4_7) rfl (flt ((fun q => absurd ((own_lt (by omega) (by omega)).mp q) (Nat.lt_irrefl _)))).2.1 (by decide) (by decide) zk) ?_
      show OGo p e below s _ _ (T84.setTop (mkF m 49 #[.val (.ref a1), .val (.int (Int32.ofNat n)), s2] []))
      refine own_st (fun tt zk => XS.iconst X84.here hx rfl (hb hby d4_49) zk) ?_
      show OGo p e below s _ _ (T84.setTop (mkF m 50 #[.val (.ref a1), .val (.int (Int32.ofNat n)), s2] [(.int (1 : Int32))]))
      exact own_retN X84 hx hlk (t := .boolean) hret (by simp) (hb hby d4_50) (by decide) (by decide) (⟨(by rw [own_b1]; exact congrArg (fun z => some (Value.int z)) hrr), rfl, e84⟩)
    | succ k ih =>
      intro i TL s2 hi hs2 XL eL hrr
      have hrr : OB (own_okb (cf i) && own_from cf (i + 1) k) = r := hrr
      show OGo p e below s _ _ (TL.setTop (mkF m 2 #[.val (.ref a1), .val (.int (Int32.ofNat i)), s2] []))
      refine own_st (fun tt zk => XS.iloadN XL.here hx rfl (hb hby d4_2) rfl zk) ?_
      show OGo p e below s _ _ (TL.setTop (mkF m 3 #[.val (.ref a1), .val (.int (Int32.ofNat i)), s2] [(.int (Int32.ofNat i))]))
      refine own_st (fun tt zk => XS.aloadN XL.here hx rfl (hb hby d4_3) rfl rfl zk) ?_
      show OGo p e below s _ _ (TL.setTop (mkF m 4 #[.val (.ref a1), .val (.int (Int32.ofNat i)), s2] [(.ref a1), (.int (Int32.ofNat i))]))
      obtain ⟨T85, X85, e85, st85⟩ := own_callVP XL hx hZ (y := (⟨"java/lang/String", "length", "()I"⟩ : MethodName)) (z := (⟨"java/lang/String", "length", "()I"⟩ : MethodName)) (W := 1) hown (hw _ (List.mem_of_getElem? (i := 26) rfl)) (hw _ (List.mem_of_getElem? (i := 27) rfl)) (notFace_of_selects (args := #[]) (mvT hZ (hw _ (List.mem_of_getElem? (i := 29) rfl)))) (hw _ (List.mem_of_getElem? (i := 29) rfl)) (hw _ (List.mem_of_getElem? (i := 28) rfl)) (hw _ (List.mem_of_getElem? (i := 30) rfl)) (hw _ (List.mem_of_getElem? (i := 2) rfl)) (by decide) (sc7 l Z a0 hw a1 t1 n cf cs h0 E_a1 F_coder_a1 F_value_a1 A_t1 S_COMPACT_STRINGS hcs) (by decide) (by decide) E_a1 (g := (mkF m 4 #[.val (.ref a1), .val (.int (Int32.ofNat i)), s2] [(.ref a1), (.int (Int32.ofNat i))])) rfl (by rw [hml]; rfl) (argsL := []) (rest := [(.int (Int32.ofNat i))]) (lenOf pd_14 rfl) rfl (by show 2 * 0 + _ ≤ _; exact Nat.le_of_eq rfl) (hb hby d4_4) rfl eL (by decide) (by decide)
      refine own_st st85 ?_
      show OGo p e below s _ _ (T85.setTop (mkF m 7 #[.val (.ref a1), .val (.int (Int32.ofNat i)), s2] [(.int (Int32.ofNat n)), (.int (Int32.ofNat i))]))
      refine own_st (fun tt zk => XS.icmpNo X85.here hx rfl (hb hby d4_7) rfl (tlt (((own_lt (by omega) (by omega)).mpr (by omega)))).2.1 zk) ?_
      show OGo p e below s _ _ (T85.setTop (mkF m 10 #[.val (.ref a1), .val (.int (Int32.ofNat i)), s2] []))
      refine own_st (fun tt zk => XS.aloadN X85.here hx rfl (hb hby d4_10) rfl rfl zk) ?_
      show OGo p e below s _ _ (T85.setTop (mkF m 11 #[.val (.ref a1), .val (.int (Int32.ofNat i)), s2] [(.ref a1)]))
      refine own_st (fun tt zk => XS.iloadN X85.here hx rfl (hb hby d4_11) rfl zk) ?_
      show OGo p e below s _ _ (T85.setTop (mkF m 12 #[.val (.ref a1), .val (.int (Int32.ofNat i)), s2] [(.int (Int32.ofNat i)), (.ref a1)]))
      obtain ⟨T86, X86, e86, st86⟩ := own_callVP X85 hx hZ (y := (⟨"java/lang/String", "charAt", "(I)C"⟩ : MethodName)) (z := (⟨"java/lang/String", "charAt", "(I)C"⟩ : MethodName)) (W := 0) hown (hw _ (List.mem_of_getElem? (i := 51) rfl)) (hw _ (List.mem_of_getElem? (i := 52) rfl)) (notFace_of_selects (args := #[]) (mvT hZ (hw _ (List.mem_of_getElem? (i := 54) rfl)))) (hw _ (List.mem_of_getElem? (i := 54) rfl)) (hw _ (List.mem_of_getElem? (i := 53) rfl)) (hw _ (List.mem_of_getElem? (i := 55) rfl)) (hw _ (List.mem_of_getElem? (i := 2) rfl)) (by decide) (sk8 l Z a0 hw a1 i t1 n cf cs fm h0 E_a1 F_coder_a1 F_value_a1 A_t1 S_COMPACT_STRINGS S_SIOOBE_FORMATTER hcs cat_fm ir_fm (by omega) hn (hbd i (by omega)).1 (hbd i (by omega)).2 (hle i (by omega))) (by decide) (by decide) E_a1 (g := (mkF m 12 #[.val (.ref a1), .val (.int (Int32.ofNat i)), s2] [(.int (Int32.ofNat i)), (.ref a1)])) rfl (by rw [hml]; rfl) (argsL := [(.int (Int32.ofNat i))]) (rest := []) (lenOf pd_15 rfl) rfl (by show 2 * 0 + _ ≤ _; exact Nat.le_of_eq rfl) (hb hby d4_12) rfl e85 (by decide) (by decide)
      refine own_st st86 ?_
      show OGo p e below s _ _ (T86.setTop (mkF m 15 #[.val (.ref a1), .val (.int (Int32.ofNat i)), s2] [(.int (cf i))]))
      refine own_st (fun tt zk => XS.istoreN X86.here hx rfl (hb hby d4_15) rfl (l' := #[.val (.ref a1), .val (.int (Int32.ofNat i)), .val (.int (cf i))]) (own_st2 hs2) zk) ?_
      show OGo p e below s _ _ (T86.setTop (mkF m 16 #[.val (.ref a1), .val (.int (Int32.ofNat i)), .val (.int (cf i))] []))
      refine own_st (fun tt zk => XS.iloadN X86.here hx rfl (hb hby d4_16) rfl zk) ?_
      show OGo p e below s _ _ (T86.setTop (mkF m 17 #[.val (.ref a1), .val (.int (Int32.ofNat i)), .val (.int (cf i))] [(.int (cf i))]))
      refine own_st (fun tt zk => XS.sipush X86.here hx rfl (hb hby d4_17) zk) ?_
      show OGo p e below s _ _ (T86.setTop (mkF m 20 #[.val (.ref a1), .val (.int (Int32.ofNat i)), .val (.int (cf i))] [(.int (255 : Int32)), (.int (cf i))]))
      by_cases c1 : (255 : Int32) < (cf i)
      · refine own_st (fun tt zk => XS.icmpYes X86.here hx rfl (pc0 := 20) (pc' := 41) rfl (hb hby d4_20) rfl (tlt (c1)).2.2.1 (by decide) (by decide) zk) ?_
        show OGo p e below s _ _ (T86.setTop (mkF m 41 #[.val (.ref a1), .val (.int (Int32.ofNat i)), .val (.int (cf i))] []))
        have hok := own_ok1 c1
        refine own_st (fun tt zk => XS.iconst X86.here hx rfl (hb hby d4_41) zk) ?_
        show OGo p e below s _ _ (T86.setTop (mkF m 42 #[.val (.ref a1), .val (.int (Int32.ofNat i)), .val (.int (cf i))] [(.int (0 : Int32))]))
        exact own_retN X86 hx hlk (t := .boolean) hret (by simp) (hb hby d4_42) (by decide) (by decide) (⟨(by rw [own_b0, ← hrr, hok]; rfl), rfl, e86⟩)
      · refine own_st (fun tt zk => XS.icmpNo X86.here hx rfl (hb hby d4_20) rfl (flt (c1)).2.2.1 zk) ?_
        show OGo p e below s _ _ (T86.setTop (mkF m 23 #[.val (.ref a1), .val (.int (Int32.ofNat i)), .val (.int (cf i))] []))
        refine own_st (fun tt zk => XS.iloadN X86.here hx rfl (hb hby d4_23) rfl zk) ?_
        show OGo p e below s _ _ (T86.setTop (mkF m 24 #[.val (.ref a1), .val (.int (Int32.ofNat i)), .val (.int (cf i))] [(.int (cf i))]))
        refine own_st (fun tt zk => XS.bipush X86.here hx rfl (hb hby d4_24) zk) ?_
        show OGo p e below s _ _ (T86.setTop (mkF m 26 #[.val (.ref a1), .val (.int (Int32.ofNat i)), .val (.int (cf i))] [(.int (127 : Int32)), (.int (cf i))]))
        by_cases c2 : (cf i) = (127 : Int32)
        · refine own_st (fun tt zk => XS.icmpYes X86.here hx rfl (pc0 := 26) (pc' := 41) rfl (hb hby d4_26) rfl (teq (c2)).1 (by decide) (by decide) zk) ?_
          show OGo p e below s _ _ (T86.setTop (mkF m 41 #[.val (.ref a1), .val (.int (Int32.ofNat i)), .val (.int (cf i))] []))
          have hok := own_ok2 c2
          refine own_st (fun tt zk => XS.iconst X86.here hx rfl (hb hby d4_41) zk) ?_
          show OGo p e below s _ _ (T86.setTop (mkF m 42 #[.val (.ref a1), .val (.int (Int32.ofNat i)), .val (.int (cf i))] [(.int (0 : Int32))]))
          exact own_retN X86 hx hlk (t := .boolean) hret (by simp) (hb hby d4_42) (by decide) (by decide) (⟨(by rw [own_b0, ← hrr, hok]; rfl), rfl, e86⟩)
        · refine own_st (fun tt zk => XS.icmpNo X86.here hx rfl (hb hby d4_26) rfl (feq (c2)).1 zk) ?_
          show OGo p e below s _ _ (T86.setTop (mkF m 29 #[.val (.ref a1), .val (.int (Int32.ofNat i)), .val (.int (cf i))] []))
          refine own_st (fun tt zk => XS.iloadN X86.here hx rfl (hb hby d4_29) rfl zk) ?_
          show OGo p e below s _ _ (T86.setTop (mkF m 30 #[.val (.ref a1), .val (.int (Int32.ofNat i)), .val (.int (cf i))] [(.int (cf i))]))
          refine own_st (fun tt zk => XS.bipush X86.here hx rfl (hb hby d4_30) zk) ?_
          show OGo p e below s _ _ (T86.setTop (mkF m 32 #[.val (.ref a1), .val (.int (Int32.ofNat i)), .val (.int (cf i))] [(.int (32 : Int32)), (.int (cf i))]))
          by_cases c3 : (cf i) < (32 : Int32)
          · refine own_st (fun tt zk => XS.icmpNo X86.here hx rfl (hb hby d4_32) rfl (tlt (c3)).2.1 zk) ?_
            show OGo p e below s _ _ (T86.setTop (mkF m 35 #[.val (.ref a1), .val (.int (Int32.ofNat i)), .val (.int (cf i))] []))
            refine own_st (fun tt zk => XS.iloadN X86.here hx rfl (hb hby d4_35) rfl zk) ?_
            show OGo p e below s _ _ (T86.setTop (mkF m 36 #[.val (.ref a1), .val (.int (Int32.ofNat i)), .val (.int (cf i))] [(.int (cf i))]))
            refine own_st (fun tt zk => XS.bipush X86.here hx rfl (hb hby d4_36) zk) ?_
            show OGo p e below s _ _ (T86.setTop (mkF m 38 #[.val (.ref a1), .val (.int (Int32.ofNat i)), .val (.int (cf i))] [(.int (9 : Int32)), (.int (cf i))]))
            by_cases c4 : (cf i) = (9 : Int32)
            · refine own_st (fun tt zk => XS.icmpYes X86.here hx rfl (pc0 := 38) (pc' := 43) rfl (hb hby d4_38) rfl (teq (c4)).1 (by decide) (by decide) zk) ?_
              show OGo p e below s _ _ (T86.setTop (mkF m 43 #[.val (.ref a1), .val (.int (Int32.ofNat i)), .val (.int (cf i))] []))
              have hok := own_ok4 c4
              refine own_st (fun tt zk => XS.iinc X86.here hx rfl (hb hby d4_43) rfl (l' := #[.val (.ref a1), .val (.int ((Int32.ofNat i) + (1 : Int32))), .val (.int (cf i))]) rfl zk) ?_
              show OGo p e below s _ _ (T86.setTop (mkF m 46 #[.val (.ref a1), .val (.int ((Int32.ofNat i) + (1 : Int32))), .val (.int (cf i))] []))
              refine own_st (fun tt zk => XS.goto X86.here hx rfl (pc0 := 46) (pc' := 2) rfl (hb hby d4_46) (by decide) (by decide) zk) ?_
              show OGo p e below s _ _ (T86.setTop (mkF m 2 #[.val (.ref a1), .val (.int ((Int32.ofNat i) + (1 : Int32))), .val (.int (cf i))] []))
              rw [own_up]
              exact ih (i + 1) T86 _ (by omega) (One.val rfl) X86 e86 (by rw [← hrr, hok]; rfl)
            · refine own_st (fun tt zk => XS.icmpNo X86.here hx rfl (hb hby d4_38) rfl (feq (c4)).1 zk) ?_
              show OGo p e below s _ _ (T86.setTop (mkF m 41 #[.val (.ref a1), .val (.int (Int32.ofNat i)), .val (.int (cf i))] []))
              have hok := own_ok5 c3 c4
              refine own_st (fun tt zk => XS.iconst X86.here hx rfl (hb hby d4_41) zk) ?_
              show OGo p e below s _ _ (T86.setTop (mkF m 42 #[.val (.ref a1), .val (.int (Int32.ofNat i)), .val (.int (cf i))] [(.int (0 : Int32))]))
              exact own_retN X86 hx hlk (t := .boolean) hret (by simp) (hb hby d4_42) (by decide) (by decide) (⟨(by rw [own_b0, ← hrr, hok]; rfl), rfl, e86⟩)
          · refine own_st (fun tt zk => XS.icmpYes X86.here hx rfl (pc0 := 32) (pc' := 43) rfl (hb hby d4_32) rfl (flt (c3)).2.1 (by decide) (by decide) zk) ?_
            show OGo p e below s _ _ (T86.setTop (mkF m 43 #[.val (.ref a1), .val (.int (Int32.ofNat i)), .val (.int (cf i))] []))
            have hok := own_ok3 c1 c2 c3
            refine own_st (fun tt zk => XS.iinc X86.here hx rfl (hb hby d4_43) rfl (l' := #[.val (.ref a1), .val (.int ((Int32.ofNat i) + (1 : Int32))), .val (.int (cf i))]) rfl zk) ?_
            show OGo p e below s _ _ (T86.setTop (mkF m 46 #[.val (.ref a1), .val (.int ((Int32.ofNat i) + (1 : Int32))), .val (.int (cf i))] []))
            refine own_st (fun tt zk => XS.goto X86.here hx rfl (pc0 := 46) (pc' := 2) rfl (hb hby d4_46) (by decide) (by decide) zk) ?_
            show OGo p e below s _ _ (T86.setTop (mkF m 2 #[.val (.ref a1), .val (.int ((Int32.ofNat i) + (1 : Int32))), .val (.int (cf i))] []))
            rw [own_up]
            exact ih (i + 1) T86 _ (by omega) (One.val rfl) X86 e86 (by rw [← hrr, hok]; rfl)
  exact loop n 0 _ _ (by omega) One.u X0 e0 hr

set_option maxRecDepth 65536 in
set_option maxHeartbeats 40000000 in
theorem riU (l : Launch) (Z : State) (a0 : Array Value) (hw : ∀ d ∈ tables_1, d.before a0 Z = true) (a1 : Addr) (t1 : Addr) (n : Nat) (cf : Nat → Int32) (cs : Int32) (fm : Value) (r : Int32) (h0 : Heap) (E_a1 : Exa Z h0 a1 "java/lang/String") (F_coder_a1 : Fld Z h0 a1 "java/lang/String" "coder" "B" (.int (1 : Int32))) (F_value_a1 : Fld Z h0 a1 "java/lang/String" "value" "[B" (.ref t1)) (A_t1 : OAr Z h0 t1 .byte (2 * n) (own_ub cf)) (S_COMPACT_STRINGS : Sta Z h0 "java/lang/String" "COMPACT_STRINGS" "Z" (.int cs)) (S_SIOOBE_FORMATTER : Sta Z h0 "jdk/internal/util/Preconditions" "SIOOBE_FORMATTER" "Ljava/util/function/BiFunction;" fm) (S__assertionsDisabled : Sta Z h0 "java/lang/StringUTF16" "$assertionsDisabled" "Z" (.int (1 : Int32))) (S_HI_BYTE_SHIFT : Sta Z h0 "java/lang/StringUTF16" "HI_BYTE_SHIFT" "I" (.int (0 : Int32))) (S_LO_BYTE_SHIFT : Sta Z h0 "java/lang/StringUTF16" "LO_BYTE_SHIFT" "I" (.int (8 : Int32))) (hcs : ¬ cs = (0 : Int32)) (cat_fm : fm.category = 1) (ir_fm : fm.isRef = true) (hn : n ≤ 3) (hbd : ∀ j, j < n → 0 ≤ (cf j).toInt ∧ (cf j).toInt < 65536) (hr : OB (own_from cf 0 n) = r) :
    OPure l Z (⟨"com/example/plain_keys/plainkeys/server/HttpGrammar", "isFieldValue", "(Ljava/lang/String;)Z"⟩ : MethodName) prog_45_method_4_code 3 (some .boolean) [] ({ frames := 5, cells := 0, slots := 0, locals := 66 } : Room) #[(.ref a1)] h0 (some (.int r)) := by
  refine own_body (plainFor_of_name pn_com_example_plain_keys_plainkeys_server_HttpGrammar) (fun m => ef_4_R m a1) ?_
  intro p e s m below meth c T0 hx hby hml hown hnm hret hlk hZ X0 e0
  have hown : s.vm.findClass "com/example/plain_keys/plainkeys/server/HttpGrammar" = some m.cls := hown
  have hml : c.maxLocals = 3 := hml
  show OGo p e below s _ _ (T0.setTop (mkF m 0 #[.val (.ref a1), .unset, .unset] []))
  refine own_st (fun tt zk => XS.iconst X0.here hx rfl (hb hby d4_0) zk) ?_
  show OGo p e below s _ _ (T0.setTop (mkF m 1 #[.val (.ref a1), .unset, .unset] [(.int (0 : Int32))]))
  refine own_st (fun tt zk => XS.istoreN X0.here hx rfl (hb hby d4_1) rfl (l' := #[.val (.ref a1), .val (.int (0 : Int32)), .unset]) rfl zk) ?_
  show OGo p e below s _ _ (T0.setTop (mkF m 2 #[.val (.ref a1), .val (.int (0 : Int32)), .unset] []))
  have loop : ∀ (k i : Nat) (TL : State) (s2 : Slot), i + k = n → One s2 → Stand p l e ({ frames := 5, cells := 0, slots := 0, locals := 66 } : Room) s m #[(.ref a1)] below meth c TL [] 0 0 → TL.heap = h0 → OB (own_from cf i k) = r → OGo p e below s ({ frames := 5, cells := 0, slots := 0, locals := 66 } : Room) (fun v' h' L => v' = some (.int r) ∧ L = [] ∧ h' = h0) (TL.setTop (mkF m 2 #[.val (.ref a1), .val (.int (Int32.ofNat i)), s2] [])) := by
    intro k
    induction k with
    | zero =>
      intro i TL s2 hi hs2 XL eL hrr
      obtain rfl : n = i := by omega
      show OGo p e below s _ _ (TL.setTop (mkF m 2 #[.val (.ref a1), .val (.int (Int32.ofNat n)), s2] []))
      refine own_st (fun tt zk => XS.iloadN XL.here hx rfl (hb hby d4_2) rfl zk) ?_
      show OGo p e below s _ _ (TL.setTop (mkF m 3 #[.val (.ref a1), .val (.int (Int32.ofNat n)), s2] [(.int (Int32.ofNat n))]))
      refine own_st (fun tt zk => XS.aloadN XL.here hx rfl (hb hby d4_3) rfl rfl zk) ?_
      show OGo p e below s _ _ (TL.setTop (mkF m 4 #[.val (.ref a1), .val (.int (Int32.ofNat n)), s2] [(.ref a1), (.int (Int32.ofNat n))]))
      obtain ⟨T87, X87, e87, st87⟩ := own_callVP XL hx hZ (y := (⟨"java/lang/String", "length", "()I"⟩ : MethodName)) (z := (⟨"java/lang/String", "length", "()I"⟩ : MethodName)) (W := 1) hown (hw _ (List.mem_of_getElem? (i := 26) rfl)) (hw _ (List.mem_of_getElem? (i := 27) rfl)) (notFace_of_selects (args := #[]) (mvT hZ (hw _ (List.mem_of_getElem? (i := 29) rfl)))) (hw _ (List.mem_of_getElem? (i := 29) rfl)) (hw _ (List.mem_of_getElem? (i := 28) rfl)) (hw _ (List.mem_of_getElem? (i := 30) rfl)) (hw _ (List.mem_of_getElem? (i := 2) rfl)) (by decide) (sk11 l Z a0 hw a1 t1 n cf cs h0 E_a1 F_coder_a1 F_value_a1 A_t1 S_COMPACT_STRINGS hcs hn) (by decide) (by decide) E_a1 (g := (mkF m 4 #[.val (.ref a1), .val (.int (Int32.ofNat n)), s2] [(.ref a1), (.int (Int32.ofNat n))])) rfl (by rw [hml]; rfl) (argsL := []) (rest := [(.int (Int32.ofNat n))]) (lenOf pd_14 rfl) rfl (by show 2 * 0 + _ ≤ _; exact Nat.le_of_eq rfl) (hb hby d4_4) rfl eL (by decide) (by decide)
      refine own_st st87 ?_
      show OGo p e below s _ _ (T87.setTop (mkF m 7 #[.val (.ref a1), .val (.int (Int32.ofNat n)), s2] [(.int (Int32.ofNat n)), (.int (Int32.ofNat n))]))
      refine own_st (fun tt zk => XS.icmpYes X87.here hx rfl (pc0 := 7) (pc' := 49) rfl (hb hby d4_7) rfl (flt ((fun q => absurd ((own_lt (by omega) (by omega)).mp q) (Nat.lt_irrefl _)))).2.1 (by decide) (by decide) zk) ?_
      show OGo p e below s _ _ (T87.setTop (mkF m 49 #[.val (.ref a1), .val (.int (Int32.ofNat n)), s2] []))
      refine own_st (fun tt zk => XS.iconst X87.here hx rfl (hb hby d4_49) zk) ?_
      show OGo p e below s _ _ (T87.setTop (mkF m 50 #[.val (.ref a1), .val (.int (Int32.ofNat n)), s2] [(.int (1 : Int32))]))
      exact own_retN X87 hx hlk (t := .boolean) hret (by simp) (hb hby d4_50) (by decide) (by decide) (⟨(by rw [own_b1]; exact congrArg (fun z => some (Value.int z)) hrr), rfl, e87⟩)
    | succ k ih =>
      intro i TL s2 hi hs2 XL eL hrr
      have hrr : OB (own_okb (cf i) && own_from cf (i + 1) k) = r := hrr
      show OGo p e below s _ _ (TL.setTop (mkF m 2 #[.val (.ref a1), .val (.int (Int32.ofNat i)), s2] []))
      refine own_st (fun tt zk => XS.iloadN XL.here hx rfl (hb hby d4_2) rfl zk) ?_
      show OGo p e below s _ _ (TL.setTop (mkF m 3 #[.val (.ref a1), .val (.int (Int32.ofNat i)), s2] [(.int (Int32.ofNat i))]))
      refine own_st (fun tt zk => XS.aloadN XL.here hx rfl (hb hby d4_3) rfl rfl zk) ?_
      show OGo p e below s _ _ (TL.setTop (mkF m 4 #[.val (.ref a1), .val (.int (Int32.ofNat i)), s2] [(.ref a1), (.int (Int32.ofNat i))]))
      obtain ⟨T88, X88, e88, st88⟩ := own_callVP XL hx hZ (y := (⟨"java/lang/String", "length", "()I"⟩ : MethodName)) (z := (⟨"java/lang/String", "length", "()I"⟩ : MethodName)) (W := 1) hown (hw _ (List.mem_of_getElem? (i := 26) rfl)) (hw _ (List.mem_of_getElem? (i := 27) rfl)) (notFace_of_selects (args := #[]) (mvT hZ (hw _ (List.mem_of_getElem? (i := 29) rfl)))) (hw _ (List.mem_of_getElem? (i := 29) rfl)) (hw _ (List.mem_of_getElem? (i := 28) rfl)) (hw _ (List.mem_of_getElem? (i := 30) rfl)) (hw _ (List.mem_of_getElem? (i := 2) rfl)) (by decide) (sk11 l Z a0 hw a1 t1 n cf cs h0 E_a1 F_coder_a1 F_value_a1 A_t1 S_COMPACT_STRINGS hcs hn) (by decide) (by decide) E_a1 (g := (mkF m 4 #[.val (.ref a1), .val (.int (Int32.ofNat i)), s2] [(.ref a1), (.int (Int32.ofNat i))])) rfl (by rw [hml]; rfl) (argsL := []) (rest := [(.int (Int32.ofNat i))]) (lenOf pd_14 rfl) rfl (by show 2 * 0 + _ ≤ _; exact Nat.le_of_eq rfl) (hb hby d4_4) rfl eL (by decide) (by decide)
      refine own_st st88 ?_
      show OGo p e below s _ _ (T88.setTop (mkF m 7 #[.val (.ref a1), .val (.int (Int32.ofNat i)), s2] [(.int (Int32.ofNat n)), (.int (Int32.ofNat i))]))
      refine own_st (fun tt zk => XS.icmpNo X88.here hx rfl (hb hby d4_7) rfl (tlt (((own_lt (by omega) (by omega)).mpr (by omega)))).2.1 zk) ?_
      show OGo p e below s _ _ (T88.setTop (mkF m 10 #[.val (.ref a1), .val (.int (Int32.ofNat i)), s2] []))
      refine own_st (fun tt zk => XS.aloadN X88.here hx rfl (hb hby d4_10) rfl rfl zk) ?_
      show OGo p e below s _ _ (T88.setTop (mkF m 11 #[.val (.ref a1), .val (.int (Int32.ofNat i)), s2] [(.ref a1)]))
      refine own_st (fun tt zk => XS.iloadN X88.here hx rfl (hb hby d4_11) rfl zk) ?_
      show OGo p e below s _ _ (T88.setTop (mkF m 12 #[.val (.ref a1), .val (.int (Int32.ofNat i)), s2] [(.int (Int32.ofNat i)), (.ref a1)]))
      obtain ⟨T89, X89, e89, st89⟩ := own_callVP X88 hx hZ (y := (⟨"java/lang/String", "charAt", "(I)C"⟩ : MethodName)) (z := (⟨"java/lang/String", "charAt", "(I)C"⟩ : MethodName)) (W := 0) hown (hw _ (List.mem_of_getElem? (i := 51) rfl)) (hw _ (List.mem_of_getElem? (i := 52) rfl)) (notFace_of_selects (args := #[]) (mvT hZ (hw _ (List.mem_of_getElem? (i := 54) rfl)))) (hw _ (List.mem_of_getElem? (i := 54) rfl)) (hw _ (List.mem_of_getElem? (i := 53) rfl)) (hw _ (List.mem_of_getElem? (i := 55) rfl)) (hw _ (List.mem_of_getElem? (i := 2) rfl)) (by decide) (sk9 l Z a0 hw a1 i t1 n cf cs fm h0 E_a1 F_coder_a1 F_value_a1 A_t1 S_COMPACT_STRINGS S_SIOOBE_FORMATTER S__assertionsDisabled S_HI_BYTE_SHIFT S_LO_BYTE_SHIFT hcs cat_fm ir_fm (by omega) hn (hbd i (by omega)).1 (hbd i (by omega)).2) (by decide) (by decide) E_a1 (g := (mkF m 12 #[.val (.ref a1), .val (.int (Int32.ofNat i)), s2] [(.int (Int32.ofNat i)), (.ref a1)])) rfl (by rw [hml]; rfl) (argsL := [(.int (Int32.ofNat i))]) (rest := []) (lenOf pd_15 rfl) rfl (by show 2 * 0 + _ ≤ _; exact Nat.le_of_eq rfl) (hb hby d4_12) rfl e88 (by decide) (by decide)
      refine own_st st89 ?_
      show OGo p e below s _ _ (T89.setTop (mkF m 15 #[.val (.ref a1), .val (.int (Int32.ofNat i)), s2] [(.int (cf i))]))
      refine own_st (fun tt zk => XS.istoreN X89.here hx rfl (hb hby d4_15) rfl (l' := #[.val (.ref a1), .val (.int (Int32.ofNat i)), .val (.int (cf i))]) (own_st2 hs2) zk) ?_
      show OGo p e below s _ _ (T89.setTop (mkF m 16 #[.val (.ref a1), .val (.int (Int32.ofNat i)), .val (.int (cf i))] []))
      refine own_st (fun tt zk => XS.iloadN X89.here hx rfl (hb hby d4_16) rfl zk) ?_
      show OGo p e below s _ _ (T89.setTop (mkF m 17 #[.val (.ref a1), .val (.int (Int32.ofNat i)), .val (.int (cf i))] [(.int (cf i))]))
      refine own_st (fun tt zk => XS.sipush X89.here hx rfl (hb hby d4_17) zk) ?_
      show OGo p e below s _ _ (T89.setTop (mkF m 20 #[.val (.ref a1), .val (.int (Int32.ofNat i)), .val (.int (cf i))] [(.int (255 : Int32)), (.int (cf i))]))
      by_cases c1 : (255 : Int32) < (cf i)
      · refine own_st (fun tt zk => XS.icmpYes X89.here hx rfl (pc0 := 20) (pc' := 41) rfl (hb hby d4_20) rfl (tlt (c1)).2.2.1 (by decide) (by decide) zk) ?_
        show OGo p e below s _ _ (T89.setTop (mkF m 41 #[.val (.ref a1), .val (.int (Int32.ofNat i)), .val (.int (cf i))] []))
        have hok := own_ok1 c1
        refine own_st (fun tt zk => XS.iconst X89.here hx rfl (hb hby d4_41) zk) ?_
        show OGo p e below s _ _ (T89.setTop (mkF m 42 #[.val (.ref a1), .val (.int (Int32.ofNat i)), .val (.int (cf i))] [(.int (0 : Int32))]))
        exact own_retN X89 hx hlk (t := .boolean) hret (by simp) (hb hby d4_42) (by decide) (by decide) (⟨(by rw [own_b0, ← hrr, hok]; rfl), rfl, e89⟩)
      · refine own_st (fun tt zk => XS.icmpNo X89.here hx rfl (hb hby d4_20) rfl (flt (c1)).2.2.1 zk) ?_
        show OGo p e below s _ _ (T89.setTop (mkF m 23 #[.val (.ref a1), .val (.int (Int32.ofNat i)), .val (.int (cf i))] []))
        refine own_st (fun tt zk => XS.iloadN X89.here hx rfl (hb hby d4_23) rfl zk) ?_
        show OGo p e below s _ _ (T89.setTop (mkF m 24 #[.val (.ref a1), .val (.int (Int32.ofNat i)), .val (.int (cf i))] [(.int (cf i))]))
        refine own_st (fun tt zk => XS.bipush X89.here hx rfl (hb hby d4_24) zk) ?_
        show OGo p e below s _ _ (T89.setTop (mkF m 26 #[.val (.ref a1), .val (.int (Int32.ofNat i)), .val (.int (cf i))] [(.int (127 : Int32)), (.int (cf i))]))
        by_cases c2 : (cf i) = (127 : Int32)
        · refine own_st (fun tt zk => XS.icmpYes X89.here hx rfl (pc0 := 26) (pc' := 41) rfl (hb hby d4_26) rfl (teq (c2)).1 (by decide) (by decide) zk) ?_
          show OGo p e below s _ _ (T89.setTop (mkF m 41 #[.val (.ref a1), .val (.int (Int32.ofNat i)), .val (.int (cf i))] []))
          have hok := own_ok2 c2
          refine own_st (fun tt zk => XS.iconst X89.here hx rfl (hb hby d4_41) zk) ?_
          show OGo p e below s _ _ (T89.setTop (mkF m 42 #[.val (.ref a1), .val (.int (Int32.ofNat i)), .val (.int (cf i))] [(.int (0 : Int32))]))
          exact own_retN X89 hx hlk (t := .boolean) hret (by simp) (hb hby d4_42) (by decide) (by decide) (⟨(by rw [own_b0, ← hrr, hok]; rfl), rfl, e89⟩)
        · refine own_st (fun tt zk => XS.icmpNo X89.here hx rfl (hb hby d4_26) rfl (feq (c2)).1 zk) ?_
          show OGo p e below s _ _ (T89.setTop (mkF m 29 #[.val (.ref a1), .val (.int (Int32.ofNat i)), .val (.int (cf i))] []))
          refine own_st (fun tt zk => XS.iloadN X89.here hx rfl (hb hby d4_29) rfl zk) ?_
          show OGo p e below s _ _ (T89.setTop (mkF m 30 #[.val (.ref a1), .val (.int (Int32.ofNat i)), .val (.int (cf i))] [(.int (cf i))]))
          refine own_st (fun tt zk => XS.bipush X89.here hx rfl (hb hby d4_30) zk) ?_
          show OGo p e below s _ _ (T89.setTop (mkF m 32 #[.val (.ref a1), .val (.int (Int32.ofNat i)), .val (.int (cf i))] [(.int (32 : Int32)), (.int (cf i))]))
          by_cases c3 : (cf i) < (32 : Int32)
          · refine own_st (fun tt zk => XS.icmpNo X89.here hx rfl (hb hby d4_32) rfl (tlt (c3)).2.1 zk) ?_
            show OGo p e below s _ _ (T89.setTop (mkF m 35 #[.val (.ref a1), .val (.int (Int32.ofNat i)), .val (.int (cf i))] []))
            refine own_st (fun tt zk => XS.iloadN X89.here hx rfl (hb hby d4_35) rfl zk) ?_
            show OGo p e below s _ _ (T89.setTop (mkF m 36 #[.val (.ref a1), .val (.int (Int32.ofNat i)), .val (.int (cf i))] [(.int (cf i))]))
            refine own_st (fun tt zk => XS.bipush X89.here hx rfl (hb hby d4_36) zk) ?_
            show OGo p e below s _ _ (T89.setTop (mkF m 38 #[.val (.ref a1), .val (.int (Int32.ofNat i)), .val (.int (cf i))] [(.int (9 : Int32)), (.int (cf i))]))
            by_cases c4 : (cf i) = (9 : Int32)
            · refine own_st (fun tt zk => XS.icmpYes X89.here hx rfl (pc0 := 38) (pc' := 43) rfl (hb hby d4_38) rfl (teq (c4)).1 (by decide) (by decide) zk) ?_
              show OGo p e below s _ _ (T89.setTop (mkF m 43 #[.val (.ref a1), .val (.int (Int32.ofNat i)), .val (.int (cf i))] []))
              have hok := own_ok4 c4
              refine own_st (fun tt zk => XS.iinc X89.here hx rfl (hb hby d4_43) rfl (l' := #[.val (.ref a1), .val (.int ((Int32.ofNat i) + (1 : Int32))), .val (.int (cf i))]) rfl zk) ?_
              show OGo p e below s _ _ (T89.setTop (mkF m 46 #[.val (.ref a1), .val (.int ((Int32.ofNat i) + (1 : Int32))), .val (.int (cf i))] []))
              refine own_st (fun tt zk => XS.goto X89.here hx rfl (pc0 := 46) (pc' := 2) rfl (hb hby d4_46) (by decide) (by decide) zk) ?_
              show OGo p e below s _ _ (T89.setTop (mkF m 2 #[.val (.ref a1), .val (.int ((Int32.ofNat i) + (1 : Int32))), .val (.int (cf i))] []))
              rw [own_up]
              exact ih (i + 1) T89 _ (by omega) (One.val rfl) X89 e89 (by rw [← hrr, hok]; rfl)
            · refine own_st (fun tt zk => XS.icmpNo X89.here hx rfl (hb hby d4_38) rfl (feq (c4)).1 zk) ?_
              show OGo p e below s _ _ (T89.setTop (mkF m 41 #[.val (.ref a1), .val (.int (Int32.ofNat i)), .val (.int (cf i))] []))
              have hok := own_ok5 c3 c4
              refine own_st (fun tt zk => XS.iconst X89.here hx rfl (hb hby d4_41) zk) ?_
              show OGo p e below s _ _ (T89.setTop (mkF m 42 #[.val (.ref a1), .val (.int (Int32.ofNat i)), .val (.int (cf i))] [(.int (0 : Int32))]))
              exact own_retN X89 hx hlk (t := .boolean) hret (by simp) (hb hby d4_42) (by decide) (by decide) (⟨(by rw [own_b0, ← hrr, hok]; rfl), rfl, e89⟩)
          · refine own_st (fun tt zk => XS.icmpYes X89.here hx rfl (pc0 := 32) (pc' := 43) rfl (hb hby d4_32) rfl (flt (c3)).2.1 (by decide) (by decide) zk) ?_
            show OGo p e below s _ _ (T89.setTop (mkF m 43 #[.val (.ref a1), .val (.int (Int32.ofNat i)), .val (.int (cf i))] []))
            have hok := own_ok3 c1 c2 c3
            refine own_st (fun tt zk => XS.iinc X89.here hx rfl (hb hby d4_43) rfl (l' := #[.val (.ref a1), .val (.int ((Int32.ofNat i) + (1 : Int32))), .val (.int (cf i))]) rfl zk) ?_
            show OGo p e below s _ _ (T89.setTop (mkF m 46 #[.val (.ref a1), .val (.int ((Int32.ofNat i) + (1 : Int32))), .val (.int (cf i))] []))
            refine own_st (fun tt zk => XS.goto X89.here hx rfl (pc0 := 46) (pc' := 2) rfl (hb hby d4_46) (by decide) (by decide) zk) ?_
            show OGo p e below s _ _ (T89.setTop (mkF m 2 #[.val (.ref a1), .val (.int ((Int32.ofNat i) + (1 : Int32))), .val (.int (cf i))] []))
            rw [own_up]
            exact ih (i + 1) T89 _ (by omega) (One.val rfl) X89 e89 (by rw [← hrr, hok]; rfl)
  exact loop n 0 _ _ (by omega) One.u X0 e0 hr
def own_c3 (x y z : Int32) : Nat → Int32 := fun j => if j = 0 then x else if j = 1 then y else z
theorem own_bd {x y z : Int32} (hx : 0 ≤ x.toInt ∧ x.toInt < 65536) (hy : 0 ≤ y.toInt ∧ y.toInt < 65536) (hz : 0 ≤ z.toInt ∧ z.toInt < 65536) (n : Nat) : ∀ j, j < n → 0 ≤ (own_c3 x y z j).toInt ∧ (own_c3 x y z j).toInt < 65536 := fun j _ => by
  unfold own_c3; split
  · exact hx
  · split
    · exact hy
    · exact hz
theorem own_le1 {x y z : Int32} (hx : ¬ (255 : Int32) < x) : ∀ j, j < 1 → ¬ (255 : Int32) < own_c3 x y z j := fun j hj => by
  obtain rfl : j = 0 := by omega
  exact hx
theorem own_le2 {x y z : Int32} (hx : ¬ (255 : Int32) < x) (hy : ¬ (255 : Int32) < y) : ∀ j, j < 2 → ¬ (255 : Int32) < own_c3 x y z j := fun j hj => by
  have : j = 0 ∨ j = 1 := by omega
  rcases this with rfl | rfl
  · exact hx
  · exact hy
theorem own_le3 {x y z : Int32} (hx : ¬ (255 : Int32) < x) (hy : ¬ (255 : Int32) < y) (hz : ¬ (255 : Int32) < z) : ∀ j, j < 3 → ¬ (255 : Int32) < own_c3 x y z j := fun j hj => by
  have : j = 0 ∨ j = 1 ∨ j = 2 := by omega
  rcases this with rfl | rfl | rfl
  · exact hx
  · exact hy
  · exact hz
theorem own_ch (q : Int32) : ∃ c : Int32, q.toUInt32.toUInt16.toUInt32.toInt32 = c ∧ 0 ≤ c.toInt ∧ c.toInt < 65536 := ⟨_, rfl, (c_i2c q).2⟩
theorem ef_0_IIII (m : MethodId) (x0 : Int32) (x1 : Int32) (x2 : Int32) (x3 : Int32) : entryFrame m #[(.int x0), (.int x1), (.int x2), (.int x3)] maxLocals = mkF m 0 #[.val (.int x0), .val (.int x1), .val (.int x2), .val (.int x3), .unset, .unset, .unset, .unset, .unset, .unset] [] := by first | (simp [entryFrame, mkF, argsToLocals, Value.category, maxLocals]; done) | rfl
theorem pd_16 : parseMethodDescriptor "([C)V" = some ⟨[(.array .char)], none⟩ := by decide +kernel
theorem pd_17 : parseMethodDescriptor "(Ljava/lang/String;)Z" = some ⟨[(.object "java/lang/String")], some .boolean⟩ := by decide +kernel
theorem pd_18 : parseMethodDescriptor "(C)Z" = some ⟨[.char], some .boolean⟩ := by decide +kernel
set_option maxRecDepth 65536 in
set_option maxHeartbeats 40000000 in
theorem rm0 (l : Launch) (Z : State) (a0 : Array Value) (hw : ∀ d ∈ tables_1, d.before a0 Z = true) (ws : List Jvm.Cond) (q1 : Int32) (q2 : Int32) (q3 : Int32) (q4 : Int32) (cs : Int32) (fm : Value) (h0 : Heap) (n0 : Nat) (Z0 : n0 ≤ h0.size) (S_COMPACT_STRINGS : Sta Z h0 "java/lang/String" "COMPACT_STRINGS" "Z" (.int cs)) (S_SIOOBE_FORMATTER : Sta Z h0 "jdk/internal/util/Preconditions" "SIOOBE_FORMATTER" "Ljava/util/function/BiFunction;" fm) (S__assertionsDisabled : Sta Z h0 "java/lang/StringUTF16" "$assertionsDisabled" "Z" (.int (1 : Int32))) (S_HI_BYTE_SHIFT : Sta Z h0 "java/lang/StringUTF16" "HI_BYTE_SHIFT" "I" (.int (0 : Int32))) (S_LO_BYTE_SHIFT : Sta Z h0 "java/lang/StringUTF16" "LO_BYTE_SHIFT" "I" (.int (8 : Int32))) (hcs : ¬ cs = (0 : Int32)) (cat_fm : fm.category = 1) (ir_fm : fm.isRef = true) :
    OMetW l Z own_EL x code maxLocals ret ws room_1 #[(.int q1), (.int q2), (.int q3), (.int q4)] h0 (OLawQ n0) := by
  refine own_bodyW (plainFor_of_name pn_com_example_plain_keys_plainkeys_server_HttpGrammarIsFieldValuePinLaw) (fun m => ef_0_IIII m q1 q2 q3 q4) ?_
  intro p e s m below meth c T0 hx hby hml hown hnm hret hlk hZ X0 e0 es hS CH
  have hk := Nat.le_refl h0.size
  have hEL := own_EW hw
  have hown : s.vm.findClass "com/example/plain_keys/plainkeys/server/HttpGrammarIsFieldValuePinLaw" = some m.cls := hown
  have hml : c.maxLocals = 10 := hml
  show OGoW p e below s _ Z _ _ (T0.setTop (mkF m 0 #[.val (.int q1), .val (.int q2), .val (.int q3), .val (.int q4), .unset, .unset, .unset, .unset, .unset, .unset] []))
  have N0 := Fr.nil n0
  obtain ⟨ca, e_ca, bd_ca⟩ := own_ch q2
  refine own_stW (fun tt zk => XS.iloadN X0.here hx rfl (hb hby at_0) rfl zk) ?_
  show OGoW p e below s room_1 Z _ (OLawQ n0) (T0.setTop (mkF m 1 #[.val (.int q1), .val (.int q2), .val (.int q3), .val (.int q4), .unset, .unset, .unset, .unset, .unset, .unset] [(.int q1)]))
  refine own_stW (fun tt zk => XS.iconst X0.here hx rfl (hb hby at_1) zk) ?_
  show OGoW p e below s room_1 Z _ (OLawQ n0) (T0.setTop (mkF m 2 #[.val (.int q1), .val (.int q2), .val (.int q3), .val (.int q4), .unset, .unset, .unset, .unset, .unset, .unset] [(.int (3 : Int32)), (.int q1)]))
  refine own_stW (fun tt zk => XS.iand X0.here hx rfl (hb hby at_2) rfl zk) ?_
  show OGoW p e below s room_1 Z _ (OLawQ n0) (T0.setTop (mkF m 3 #[.val (.int q1), .val (.int q2), .val (.int q3), .val (.int q4), .unset, .unset, .unset, .unset, .unset, .unset] [(.int (q1 &&& (3 : Int32)))]))
  refine own_stW (fun tt zk => XS.istore X0.here hx rfl (hb hby at_3) rfl (l' := #[.val (.int q1), .val (.int q2), .val (.int q3), .val (.int q4), .val (.int (q1 &&& (3 : Int32))), .unset, .unset, .unset, .unset, .unset]) rfl zk) ?_
  show OGoW p e below s room_1 Z _ (OLawQ n0) (T0.setTop (mkF m 5 #[.val (.int q1), .val (.int q2), .val (.int q3), .val (.int q4), .val (.int (q1 &&& (3 : Int32))), .unset, .unset, .unset, .unset, .unset] []))
  refine own_stW (fun tt zk => XS.iloadN X0.here hx rfl (hb hby at_5) rfl zk) ?_
  show OGoW p e below s room_1 Z _ (OLawQ n0) (T0.setTop (mkF m 6 #[.val (.int q1), .val (.int q2), .val (.int q3), .val (.int q4), .val (.int (q1 &&& (3 : Int32))), .unset, .unset, .unset, .unset, .unset] [(.int q2)]))
  refine own_stW (fun tt zk => XS.i2c X0.here hx rfl (hb hby at_6) rfl zk) ?_
  show OGoW p e below s room_1 Z _ (OLawQ n0) (T0.setTop (mkF m 7 #[.val (.int q1), .val (.int q2), .val (.int q3), .val (.int q4), .val (.int (q1 &&& (3 : Int32))), .unset, .unset, .unset, .unset, .unset] [(.int q2.toUInt32.toUInt16.toUInt32.toInt32)]))
  rw [e_ca]
  obtain ⟨cb, e_cb, bd_cb⟩ := own_ch q3
  refine own_stW (fun tt zk => XS.istore X0.here hx rfl (hb hby at_7) rfl (l' := #[.val (.int q1), .val (.int q2), .val (.int q3), .val (.int q4), .val (.int (q1 &&& (3 : Int32))), .val (.int ca), .unset, .unset, .unset, .unset]) rfl zk) ?_
  show OGoW p e below s room_1 Z _ (OLawQ n0) (T0.setTop (mkF m 9 #[.val (.int q1), .val (.int q2), .val (.int q3), .val (.int q4), .val (.int (q1 &&& (3 : Int32))), .val (.int ca), .unset, .unset, .unset, .unset] []))
  refine own_stW (fun tt zk => XS.iloadN X0.here hx rfl (hb hby at_9) rfl zk) ?_
  show OGoW p e below s room_1 Z _ (OLawQ n0) (T0.setTop (mkF m 10 #[.val (.int q1), .val (.int q2), .val (.int q3), .val (.int q4), .val (.int (q1 &&& (3 : Int32))), .val (.int ca), .unset, .unset, .unset, .unset] [(.int q3)]))
  refine own_stW (fun tt zk => XS.i2c X0.here hx rfl (hb hby at_10) rfl zk) ?_
  show OGoW p e below s room_1 Z _ (OLawQ n0) (T0.setTop (mkF m 11 #[.val (.int q1), .val (.int q2), .val (.int q3), .val (.int q4), .val (.int (q1 &&& (3 : Int32))), .val (.int ca), .unset, .unset, .unset, .unset] [(.int q3.toUInt32.toUInt16.toUInt32.toInt32)]))
  rw [e_cb]
  obtain ⟨cc, e_cc, bd_cc⟩ := own_ch q4
  refine own_stW (fun tt zk => XS.istore X0.here hx rfl (hb hby at_11) rfl (l' := #[.val (.int q1), .val (.int q2), .val (.int q3), .val (.int q4), .val (.int (q1 &&& (3 : Int32))), .val (.int ca), .val (.int cb), .unset, .unset, .unset]) rfl zk) ?_
  show OGoW p e below s room_1 Z _ (OLawQ n0) (T0.setTop (mkF m 13 #[.val (.int q1), .val (.int q2), .val (.int q3), .val (.int q4), .val (.int (q1 &&& (3 : Int32))), .val (.int ca), .val (.int cb), .unset, .unset, .unset] []))
  refine own_stW (fun tt zk => XS.iloadN X0.here hx rfl (hb hby at_13) rfl zk) ?_
  show OGoW p e below s room_1 Z _ (OLawQ n0) (T0.setTop (mkF m 14 #[.val (.int q1), .val (.int q2), .val (.int q3), .val (.int q4), .val (.int (q1 &&& (3 : Int32))), .val (.int ca), .val (.int cb), .unset, .unset, .unset] [(.int q4)]))
  refine own_stW (fun tt zk => XS.i2c X0.here hx rfl (hb hby at_14) rfl zk) ?_
  show OGoW p e below s room_1 Z _ (OLawQ n0) (T0.setTop (mkF m 15 #[.val (.int q1), .val (.int q2), .val (.int q3), .val (.int q4), .val (.int (q1 &&& (3 : Int32))), .val (.int ca), .val (.int cb), .unset, .unset, .unset] [(.int q4.toUInt32.toUInt16.toUInt32.toInt32)]))
  rw [e_cc]
  refine own_stW (fun tt zk => XS.istore X0.here hx rfl (hb hby at_15) rfl (l' := #[.val (.int q1), .val (.int q2), .val (.int q3), .val (.int q4), .val (.int (q1 &&& (3 : Int32))), .val (.int ca), .val (.int cb), .val (.int cc), .unset, .unset]) rfl zk) ?_
  show OGoW p e below s room_1 Z _ (OLawQ n0) (T0.setTop (mkF m 17 #[.val (.int q1), .val (.int q2), .val (.int q3), .val (.int q4), .val (.int (q1 &&& (3 : Int32))), .val (.int ca), .val (.int cb), .val (.int cc), .unset, .unset] []))
  refine own_stW (fun tt zk => XS.iload X0.here hx rfl (hb hby at_17) rfl zk) ?_
  show OGoW p e below s room_1 Z _ (OLawQ n0) (T0.setTop (mkF m 19 #[.val (.int q1), .val (.int q2), .val (.int q3), .val (.int q4), .val (.int (q1 &&& (3 : Int32))), .val (.int ca), .val (.int cb), .val (.int cc), .unset, .unset] [(.int (q1 &&& (3 : Int32)))]))
  obtain ⟨len, hlen⟩ : ∃ z, z = (q1 &&& (3 : Int32)) := ⟨_, rfl⟩
  rw [← hlen]
  show OGoW p e below s room_1 Z _ (OLawQ n0) (T0.setTop (mkF m 19 #[.val (.int q1), .val (.int q2), .val (.int q3), .val (.int q4), .val (.int len), .val (.int ca), .val (.int cb), .val (.int cc), .unset, .unset] [(.int len)]))
  by_cases hl0 : len = (0 : Int32)
  · refine own_stW (fun tt zk => XS.ifNo X0.here hx rfl (hb hby at_19) rfl ((if0 _ _).trans (teq (hl0)).2) zk) ?_
    show OGoW p e below s room_1 Z _ (OLawQ n0) (T0.setTop (mkF m 22 #[.val (.int q1), .val (.int q2), .val (.int q3), .val (.int q4), .val (.int len), .val (.int ca), .val (.int cb), .val (.int cc), .unset, .unset] []))
    obtain ⟨T90, hp90, X90, e90, Ex90, Aa90, Dd90, -, st90⟩ := newO X0 hx hZ hown (hw _ (List.mem_of_getElem? (i := 0) rfl)) (hw _ (List.mem_of_getElem? (i := 1) rfl)) (hw _ (List.mem_of_getElem? (i := 2) rfl)) e0 (g := (mkF m 22 #[.val (.int q1), .val (.int q2), .val (.int q3), .val (.int q4), .val (.int len), .val (.int ca), .val (.int cb), .val (.int cc), .unset, .unset] [])) rfl (hb hby at_22) (by decide) (by decide)
    obtain ⟨sx, gs90⟩ : ∃ z, z = h0.size := ⟨_, rfl⟩
    rw [← gs90] at Aa90 Dd90 st90
    have old_sx : n0 ≤ sx := Nat.le_trans Z0 (Nat.le_of_eq gs90.symm)
    have Z0 := Nat.le_trans Z0 Ex90.1
    have hk := Nat.le_trans hk Ex90.1
    have CH := CH.trans (CHr.ext Ex90 CH.1)
    have S_COMPACT_STRINGS := S_COMPACT_STRINGS.ext Ex90
    have S_SIOOBE_FORMATTER := S_SIOOBE_FORMATTER.ext Ex90
    have S__assertionsDisabled := S__assertionsDisabled.ext Ex90
    have S_HI_BYTE_SHIFT := S_HI_BYTE_SHIFT.ext Ex90
    have S_LO_BYTE_SHIFT := S_LO_BYTE_SHIFT.ext Ex90
    have E_sx := Aa90
    have F_value_sx : Fld Z hp90 sx "java/lang/String" "value" "[B" .null := Dd90 (Or.inr (hw _ (List.mem_of_getElem? (i := 16) rfl))) (ty := (.array .byte)) (by decide)
    have F_coder_sx : Fld Z hp90 sx "java/lang/String" "coder" "B" (.int (0 : Int32)) := Dd90 (Or.inr (hw _ (List.mem_of_getElem? (i := 17) rfl))) (ty := .byte) (by decide)
    refine own_stW st90 ?_
    show OGoW p e below s room_1 Z _ (OLawQ n0) (T90.setTop (mkF m 25 #[.val (.int q1), .val (.int q2), .val (.int q3), .val (.int q4), .val (.int len), .val (.int ca), .val (.int cb), .val (.int cc), .unset, .unset] [(.ref sx)]))
    refine own_stW (fun tt zk => XS.dup X90.here hx rfl (hb hby at_25) rfl rfl zk) ?_
    show OGoW p e below s room_1 Z _ (OLawQ n0) (T90.setTop (mkF m 26 #[.val (.int q1), .val (.int q2), .val (.int q3), .val (.int q4), .val (.int len), .val (.int ca), .val (.int cb), .val (.int cc), .unset, .unset] [(.ref sx), (.ref sx)]))
    refine own_stW (fun tt zk => XS.iconst X90.here hx rfl (hb hby at_26) zk) ?_
    show OGoW p e below s room_1 Z _ (OLawQ n0) (T90.setTop (mkF m 27 #[.val (.int q1), .val (.int q2), .val (.int q3), .val (.int q4), .val (.int len), .val (.int ca), .val (.int cb), .val (.int cc), .unset, .unset] [(.int (0 : Int32)), (.ref sx), (.ref sx)]))
    obtain ⟨T91, hp91, kk91, X91, e91, Ex91, Aa91, st91⟩ := newP X90 hx hZ (hw _ (List.mem_of_getElem? (i := 3) rfl)) e90 (g := (mkF m 27 #[.val (.int q1), .val (.int q2), .val (.int q3), .val (.int q4), .val (.int len), .val (.int ca), .val (.int cb), .val (.int cc), .unset, .unset] [(.int (0 : Int32)), (.ref sx), (.ref sx)])) rfl (hb hby at_27) rfl (by decide) (cap := 0) (by decide) (by decide) (by decide) (by decide)
    obtain ⟨ax, gs91⟩ : ∃ z, z = hp90.size := ⟨_, rfl⟩
    rw [← gs91] at Aa91 st91
    have ne_sx_ax : sx ≠ ax := Nat.ne_of_lt (Nat.lt_of_lt_of_le E_sx.lt (Nat.le_of_eq gs91.symm))
    have old_ax : n0 ≤ ax := Nat.le_trans Z0 (Nat.le_of_eq gs91.symm)
    have Z0 := Nat.le_trans Z0 Ex91.1
    have hk := Nat.le_trans hk Ex91.1
    have CH := CH.trans (CHr.ext Ex91 CH.1)
    have S_COMPACT_STRINGS := S_COMPACT_STRINGS.ext Ex91
    have S_SIOOBE_FORMATTER := S_SIOOBE_FORMATTER.ext Ex91
    have S__assertionsDisabled := S__assertionsDisabled.ext Ex91
    have S_HI_BYTE_SHIFT := S_HI_BYTE_SHIFT.ext Ex91
    have S_LO_BYTE_SHIFT := S_LO_BYTE_SHIFT.ext Ex91
    have E_sx := E_sx.ext Ex91
    have F_value_sx := F_value_sx.ext Ex91
    have F_coder_sx := F_coder_sx.ext Ex91
    have A_ax := OAr.new Aa91
    refine own_stW st91 ?_
    show OGoW p e below s room_1 Z _ (OLawQ n0) (T91.setTop (mkF m 29 #[.val (.int q1), .val (.int q2), .val (.int q3), .val (.int q4), .val (.int len), .val (.int ca), .val (.int cb), .val (.int cc), .unset, .unset] [(.ref ax), (.ref sx), (.ref sx)]))
    obtain ⟨_, T92, Lc92, X92, hQ92, hS, hZ, hown, CH92, st92⟩ := own_callIW X91 hx hZ hS hk hEL CH.1 (y := (⟨"java/lang/String", "<init>", "([C)V"⟩ : MethodName)) (W := 1) rfl hown (hw _ (List.mem_of_getElem? (i := 4) rfl)) (hw _ (List.mem_of_getElem? (i := 5) rfl)) (hw _ (List.mem_of_getElem? (i := 6) rfl)) (hw _ (List.mem_of_getElem? (i := 2) rfl)) (by decide) (se5 l Z a0 hw sx ax hp91 n0 Z0 old_sx E_sx F_coder_sx F_value_sx _ A_ax) (by decide) (by decide) (a := sx) (g := (mkF m 29 #[.val (.int q1), .val (.int q2), .val (.int q3), .val (.int q4), .val (.int len), .val (.int ca), .val (.int cb), .val (.int cc), .unset, .unset] [(.ref ax), (.ref sx), (.ref sx)])) rfl (by rw [hml]; rfl) (argsL := [(.ref ax)]) (rest := [(.ref sx)]) (lenOf pd_16 rfl) rfl (by show 2 * 0 + _ ≤ _; exact Nat.le_of_eq rfl) (hb hby at_29) rfl e91 (by decide) (by decide)
    have hk := Nat.le_refl T92.heap.size
    have CH := CH.trans CH92
    obtain ⟨t1, rfl, Nq, Kq, E_q, F_cq, F_vq, A_t1⟩ := hQ92
    have hpl : ∀ w ∈ [sx], ∃ c : Cell, hp91[w]? = some c ∧ c.vm.isStatics = false := allS (own_pl_exa E_sx) all0
    have Z0 := Nat.le_trans Z0 Kq.1
    have S_COMPACT_STRINGS := own_sta_keep S_COMPACT_STRINGS Kq hpl
    have S_SIOOBE_FORMATTER := own_sta_keep S_SIOOBE_FORMATTER Kq hpl
    have S__assertionsDisabled := own_sta_keep S__assertionsDisabled Kq hpl
    have S_HI_BYTE_SHIFT := own_sta_keep S_HI_BYTE_SHIFT Kq hpl
    have S_LO_BYTE_SHIFT := own_sta_keep S_LO_BYTE_SHIFT Kq hpl
    have N1 := Fr.app N0 Nq
    have E_sx := E_q
    have F_coder_sx := F_cq
    have F_value_sx := F_vq
    refine own_stW st92 ?_
    show OGoW p e below s room_1 Z _ (OLawQ n0) (T92.setTop (mkF m 32 #[.val (.int q1), .val (.int q2), .val (.int q3), .val (.int q4), .val (.int len), .val (.int ca), .val (.int cb), .val (.int cc), .unset, .unset] [(.ref sx)]))
    refine own_stW (fun tt zk => XS.astore X92.here hx rfl (hb hby at_32) rfl rfl (l' := #[.val (.int q1), .val (.int q2), .val (.int q3), .val (.int q4), .val (.int len), .val (.int ca), .val (.int cb), .val (.int cc), .val (.ref sx), .unset]) rfl zk) ?_
    show OGoW p e below s room_1 Z _ (OLawQ n0) (T92.setTop (mkF m 34 #[.val (.int q1), .val (.int q2), .val (.int q3), .val (.int q4), .val (.int len), .val (.int ca), .val (.int cb), .val (.int cc), .val (.ref sx), .unset] []))
    refine own_stW (fun tt zk => XS.iconst X92.here hx rfl (hb hby at_34) zk) ?_
    show OGoW p e below s room_1 Z _ (OLawQ n0) (T92.setTop (mkF m 35 #[.val (.int q1), .val (.int q2), .val (.int q3), .val (.int q4), .val (.int len), .val (.int ca), .val (.int cb), .val (.int cc), .val (.ref sx), .unset] [(.int (1 : Int32))]))
    refine own_stW (fun tt zk => XS.istore X92.here hx rfl (hb hby at_35) rfl (l' := #[.val (.int q1), .val (.int q2), .val (.int q3), .val (.int q4), .val (.int len), .val (.int ca), .val (.int cb), .val (.int cc), .val (.ref sx), .val (.int (1 : Int32))]) rfl zk) ?_
    show OGoW p e below s room_1 Z _ (OLawQ n0) (T92.setTop (mkF m 37 #[.val (.int q1), .val (.int q2), .val (.int q3), .val (.int q4), .val (.int len), .val (.int ca), .val (.int cb), .val (.int cc), .val (.ref sx), .val (.int (1 : Int32))] []))
    refine own_stW (fun tt zk => XS.goto X92.here hx rfl (pc0 := 37) (pc' := 185) rfl (hb hby at_37) (by decide) (by decide) zk) ?_
    show OGoW p e below s room_1 Z _ (OLawQ n0) (T92.setTop (mkF m 185 #[.val (.int q1), .val (.int q2), .val (.int q3), .val (.int q4), .val (.int len), .val (.int ca), .val (.int cb), .val (.int cc), .val (.ref sx), .val (.int (1 : Int32))] []))
    refine own_stW (fun tt zk => XS.aload X92.here hx rfl (hb hby at_185) rfl rfl zk) ?_
    show OGoW p e below s room_1 Z _ (OLawQ n0) (T92.setTop (mkF m 187 #[.val (.int q1), .val (.int q2), .val (.int q3), .val (.int q4), .val (.int len), .val (.int ca), .val (.int cb), .val (.int cc), .val (.ref sx), .val (.int (1 : Int32))] [(.ref sx)]))
    obtain ⟨T93, X93, e93, st93⟩ := own_callSP X92 hx hZ (y := (⟨"com/example/plain_keys/plainkeys/server/HttpGrammar", "isFieldValue", "(Ljava/lang/String;)Z"⟩ : MethodName)) (W := 0) hown (hw _ (List.mem_of_getElem? (i := 22) rfl)) (hw _ (List.mem_of_getElem? (i := 23) rfl)) (hw _ (List.mem_of_getElem? (i := 24) rfl)) (hw _ (List.mem_of_getElem? (i := 25) rfl)) (by decide) (riL l Z a0 hw sx t1 0 own_c0 cs fm (1 : Int32) T92.heap E_sx F_coder_sx F_value_sx A_t1 S_COMPACT_STRINGS S_SIOOBE_FORMATTER hcs cat_fm ir_fm (by decide) (fun j hj => absurd hj (Nat.not_lt_zero j)) (fun j hj => absurd hj (Nat.not_lt_zero j)) rfl) (by decide) (by decide) (g := (mkF m 187 #[.val (.int q1), .val (.int q2), .val (.int q3), .val (.int q4), .val (.int len), .val (.int ca), .val (.int cb), .val (.int cc), .val (.ref sx), .val (.int (1 : Int32))] [(.ref sx)])) rfl (by rw [hml]; rfl) (argsL := [(.ref sx)]) (rest := []) (lenOf pd_17 rfl) rfl (by show 2 * 0 + _ ≤ _; exact Nat.le_of_eq rfl) (hb hby at_187) rfl rfl (by decide) (by decide)
    refine own_stW st93 ?_
    show OGoW p e below s room_1 Z _ (OLawQ n0) (T93.setTop (mkF m 190 #[.val (.int q1), .val (.int q2), .val (.int q3), .val (.int q4), .val (.int len), .val (.int ca), .val (.int cb), .val (.int cc), .val (.ref sx), .val (.int (1 : Int32))] [(.int (1 : Int32))]))
    refine own_stW (fun tt zk => XS.iload X93.here hx rfl (hb hby at_190) rfl zk) ?_
    show OGoW p e below s room_1 Z _ (OLawQ n0) (T93.setTop (mkF m 192 #[.val (.int q1), .val (.int q2), .val (.int q3), .val (.int q4), .val (.int len), .val (.int ca), .val (.int cb), .val (.int cc), .val (.ref sx), .val (.int (1 : Int32))] [(.int (1 : Int32)), (.int (1 : Int32))]))
    refine own_stW (fun tt zk => XS.icmpNo X93.here hx rfl (hb hby at_192) rfl (teq (rfl)).2 zk) ?_
    show OGoW p e below s room_1 Z _ (OLawQ n0) (T93.setTop (mkF m 195 #[.val (.int q1), .val (.int q2), .val (.int q3), .val (.int q4), .val (.int len), .val (.int ca), .val (.int cb), .val (.int cc), .val (.ref sx), .val (.int (1 : Int32))] []))
    refine own_stW (fun tt zk => XS.iconst X93.here hx rfl (hb hby at_195) zk) ?_
    show OGoW p e below s room_1 Z _ (OLawQ n0) (T93.setTop (mkF m 196 #[.val (.int q1), .val (.int q2), .val (.int q3), .val (.int q4), .val (.int len), .val (.int ca), .val (.int cb), .val (.int cc), .val (.ref sx), .val (.int (1 : Int32))] [(.int (1 : Int32))]))
    refine own_stW (fun tt zk => XS.goto X93.here hx rfl (pc0 := 196) (pc' := 200) rfl (hb hby at_196) (by decide) (by decide) zk) ?_
    show OGoW p e below s room_1 Z _ (OLawQ n0) (T93.setTop (mkF m 200 #[.val (.int q1), .val (.int q2), .val (.int q3), .val (.int q4), .val (.int len), .val (.int ca), .val (.int cb), .val (.int cc), .val (.ref sx), .val (.int (1 : Int32))] [(.int (1 : Int32))]))
    exact own_retWN X93 hx hlk (t := .boolean) hret (by simp) (hb hby at_200) (by decide) (by decide) hS e93 es hk hZ hEL CH (⟨rfl, N1⟩)
  · refine own_stW (fun tt zk => XS.ifYes X0.here hx rfl (pc0 := 19) (pc' := 40) rfl (hb hby at_19) rfl ((if0 _ _).trans (feq (hl0)).2) (by decide) (by decide) zk) ?_
    show OGoW p e below s room_1 Z _ (OLawQ n0) (T0.setTop (mkF m 40 #[.val (.int q1), .val (.int q2), .val (.int q3), .val (.int q4), .val (.int len), .val (.int ca), .val (.int cb), .val (.int cc), .unset, .unset] []))
    refine own_stW (fun tt zk => XS.iload X0.here hx rfl (hb hby at_40) rfl zk) ?_
    show OGoW p e below s room_1 Z _ (OLawQ n0) (T0.setTop (mkF m 42 #[.val (.int q1), .val (.int q2), .val (.int q3), .val (.int q4), .val (.int len), .val (.int ca), .val (.int cb), .val (.int cc), .unset, .unset] [(.int len)]))
    refine own_stW (fun tt zk => XS.iconst X0.here hx rfl (hb hby at_42) zk) ?_
    show OGoW p e below s room_1 Z _ (OLawQ n0) (T0.setTop (mkF m 43 #[.val (.int q1), .val (.int q2), .val (.int q3), .val (.int q4), .val (.int len), .val (.int ca), .val (.int cb), .val (.int cc), .unset, .unset] [(.int (1 : Int32)), (.int len)]))
    by_cases hl1 : len = (1 : Int32)
    · refine own_stW (fun tt zk => XS.icmpNo X0.here hx rfl (hb hby at_43) rfl (teq (hl1)).2 zk) ?_
      show OGoW p e below s room_1 Z _ (OLawQ n0) (T0.setTop (mkF m 46 #[.val (.int q1), .val (.int q2), .val (.int q3), .val (.int q4), .val (.int len), .val (.int ca), .val (.int cb), .val (.int cc), .unset, .unset] []))
      obtain ⟨T94, hp94, X94, e94, Ex94, Aa94, Dd94, -, st94⟩ := newO X0 hx hZ hown (hw _ (List.mem_of_getElem? (i := 0) rfl)) (hw _ (List.mem_of_getElem? (i := 1) rfl)) (hw _ (List.mem_of_getElem? (i := 2) rfl)) e0 (g := (mkF m 46 #[.val (.int q1), .val (.int q2), .val (.int q3), .val (.int q4), .val (.int len), .val (.int ca), .val (.int cb), .val (.int cc), .unset, .unset] [])) rfl (hb hby at_46) (by decide) (by decide)
      obtain ⟨sx, gs94⟩ : ∃ z, z = h0.size := ⟨_, rfl⟩
      rw [← gs94] at Aa94 Dd94 st94
      have old_sx : n0 ≤ sx := Nat.le_trans Z0 (Nat.le_of_eq gs94.symm)
      have Z0 := Nat.le_trans Z0 Ex94.1
      have hk := Nat.le_trans hk Ex94.1
      have CH := CH.trans (CHr.ext Ex94 CH.1)
      have S_COMPACT_STRINGS := S_COMPACT_STRINGS.ext Ex94
      have S_SIOOBE_FORMATTER := S_SIOOBE_FORMATTER.ext Ex94
      have S__assertionsDisabled := S__assertionsDisabled.ext Ex94
      have S_HI_BYTE_SHIFT := S_HI_BYTE_SHIFT.ext Ex94
      have S_LO_BYTE_SHIFT := S_LO_BYTE_SHIFT.ext Ex94
      have E_sx := Aa94
      have F_value_sx : Fld Z hp94 sx "java/lang/String" "value" "[B" .null := Dd94 (Or.inr (hw _ (List.mem_of_getElem? (i := 16) rfl))) (ty := (.array .byte)) (by decide)
      have F_coder_sx : Fld Z hp94 sx "java/lang/String" "coder" "B" (.int (0 : Int32)) := Dd94 (Or.inr (hw _ (List.mem_of_getElem? (i := 17) rfl))) (ty := .byte) (by decide)
      refine own_stW st94 ?_
      show OGoW p e below s room_1 Z _ (OLawQ n0) (T94.setTop (mkF m 49 #[.val (.int q1), .val (.int q2), .val (.int q3), .val (.int q4), .val (.int len), .val (.int ca), .val (.int cb), .val (.int cc), .unset, .unset] [(.ref sx)]))
      refine own_stW (fun tt zk => XS.dup X94.here hx rfl (hb hby at_49) rfl rfl zk) ?_
      show OGoW p e below s room_1 Z _ (OLawQ n0) (T94.setTop (mkF m 50 #[.val (.int q1), .val (.int q2), .val (.int q3), .val (.int q4), .val (.int len), .val (.int ca), .val (.int cb), .val (.int cc), .unset, .unset] [(.ref sx), (.ref sx)]))
      refine own_stW (fun tt zk => XS.iconst X94.here hx rfl (hb hby at_50) zk) ?_
      show OGoW p e below s room_1 Z _ (OLawQ n0) (T94.setTop (mkF m 51 #[.val (.int q1), .val (.int q2), .val (.int q3), .val (.int q4), .val (.int len), .val (.int ca), .val (.int cb), .val (.int cc), .unset, .unset] [(.int (1 : Int32)), (.ref sx), (.ref sx)]))
      obtain ⟨T95, hp95, kk95, X95, e95, Ex95, Aa95, st95⟩ := newP X94 hx hZ (hw _ (List.mem_of_getElem? (i := 3) rfl)) e94 (g := (mkF m 51 #[.val (.int q1), .val (.int q2), .val (.int q3), .val (.int q4), .val (.int len), .val (.int ca), .val (.int cb), .val (.int cc), .unset, .unset] [(.int (1 : Int32)), (.ref sx), (.ref sx)])) rfl (hb hby at_51) rfl (by decide) (cap := 1) (by decide) (by decide) (by decide) (by decide)
      obtain ⟨ax, gs95⟩ : ∃ z, z = hp94.size := ⟨_, rfl⟩
      rw [← gs95] at Aa95 st95
      have ne_sx_ax : sx ≠ ax := Nat.ne_of_lt (Nat.lt_of_lt_of_le E_sx.lt (Nat.le_of_eq gs95.symm))
      have old_ax : n0 ≤ ax := Nat.le_trans Z0 (Nat.le_of_eq gs95.symm)
      have Z0 := Nat.le_trans Z0 Ex95.1
      have hk := Nat.le_trans hk Ex95.1
      have CH := CH.trans (CHr.ext Ex95 CH.1)
      have S_COMPACT_STRINGS := S_COMPACT_STRINGS.ext Ex95
      have S_SIOOBE_FORMATTER := S_SIOOBE_FORMATTER.ext Ex95
      have S__assertionsDisabled := S__assertionsDisabled.ext Ex95
      have S_HI_BYTE_SHIFT := S_HI_BYTE_SHIFT.ext Ex95
      have S_LO_BYTE_SHIFT := S_LO_BYTE_SHIFT.ext Ex95
      have E_sx := E_sx.ext Ex95
      have F_value_sx := F_value_sx.ext Ex95
      have F_coder_sx := F_coder_sx.ext Ex95
      have A_ax := OAr.new Aa95
      refine own_stW st95 ?_
      show OGoW p e below s room_1 Z _ (OLawQ n0) (T95.setTop (mkF m 53 #[.val (.int q1), .val (.int q2), .val (.int q3), .val (.int q4), .val (.int len), .val (.int ca), .val (.int cb), .val (.int cc), .unset, .unset] [(.ref ax), (.ref sx), (.ref sx)]))
      refine own_stW (fun tt zk => XS.dup X95.here hx rfl (hb hby at_53) rfl rfl zk) ?_
      show OGoW p e below s room_1 Z _ (OLawQ n0) (T95.setTop (mkF m 54 #[.val (.int q1), .val (.int q2), .val (.int q3), .val (.int q4), .val (.int len), .val (.int ca), .val (.int cb), .val (.int cc), .unset, .unset] [(.ref ax), (.ref ax), (.ref sx), (.ref sx)]))
      refine own_stW (fun tt zk => XS.iconst X95.here hx rfl (hb hby at_54) zk) ?_
      show OGoW p e below s room_1 Z _ (OLawQ n0) (T95.setTop (mkF m 55 #[.val (.int q1), .val (.int q2), .val (.int q3), .val (.int q4), .val (.int len), .val (.int ca), .val (.int cb), .val (.int cc), .unset, .unset] [(.int (0 : Int32)), (.ref ax), (.ref ax), (.ref sx), (.ref sx)]))
      refine own_stW (fun tt zk => XS.iload X95.here hx rfl (hb hby at_55) rfl zk) ?_
      show OGoW p e below s room_1 Z _ (OLawQ n0) (T95.setTop (mkF m 57 #[.val (.int q1), .val (.int q2), .val (.int q3), .val (.int q4), .val (.int len), .val (.int ca), .val (.int cb), .val (.int cc), .unset, .unset] [(.int ca), (.int (0 : Int32)), (.ref ax), (.ref ax), (.ref sx), (.ref sx)]))
      obtain ⟨cl96, Ar96, Sz96, Hh96⟩ := id A_ax
      obtain ⟨T96, hp96, X96, e96, Ww96, st96⟩ := stC X95 hx hZ e95 Ar96 (j := (0 : Int32)) (own_in Sz96 (by decide) (by decide)) (g := (mkF m 57 #[.val (.int q1), .val (.int q2), .val (.int q3), .val (.int q4), .val (.int len), .val (.int ca), .val (.int cb), .val (.int cc), .unset, .unset] [(.int ca), (.int (0 : Int32)), (.ref ax), (.ref ax), (.ref sx), (.ref sx)])) rfl rfl (hb hby at_57)
      have Nf96 := Fr.snoc X96 N0 old_ax
      have Z0 := Nat.le_trans Z0 (Keep.of_wr Ww96).1
      have hk := Nat.le_trans hk (Keep.of_wr Ww96).1
      have CH := CH.trans (CHr.wr Ww96 (own_safe_arr hZ.alike A_ax (by decide)) CH.1)
      have S_COMPACT_STRINGS := S_COMPACT_STRINGS.wr Ww96
      have S_SIOOBE_FORMATTER := S_SIOOBE_FORMATTER.wr Ww96
      have S__assertionsDisabled := S__assertionsDisabled.wr Ww96
      have S_HI_BYTE_SHIFT := S_HI_BYTE_SHIFT.wr Ww96
      have S_LO_BYTE_SHIFT := S_LO_BYTE_SHIFT.wr Ww96
      have E_sx := E_sx.wr Ww96
      have F_value_sx := F_value_sx.other Ww96 (Or.inl ne_sx_ax)
      have F_coder_sx := F_coder_sx.other Ww96 (Or.inl ne_sx_ax)
      have A_ax := OAr.set Ar96 Sz96 Hh96 Ww96
      refine own_stW st96 ?_
      show OGoW p e below s room_1 Z _ (OLawQ n0) (T96.setTop (mkF m 58 #[.val (.int q1), .val (.int q2), .val (.int q3), .val (.int q4), .val (.int len), .val (.int ca), .val (.int cb), .val (.int cc), .unset, .unset] [(.ref ax), (.ref sx), (.ref sx)]))
      have A_ax : OAr Z hp96 ax .char 1 (fun j => .int ((own_c3 ca ca ca) j)) := A_ax.cong (fun j hj => by
        have : j = 0 := by have : j < 1 := hj; omega
        rcases this with rfl
        · exact congrArg Value.int (own_nc ca bd_ca.1 bd_ca.2))
      by_cases g_ca : (255 : Int32) < ca
      · obtain ⟨_, T97, Lc97, X97, hQ97, st97⟩ := own_callI X96 hx hZ (y := (⟨"java/lang/String", "<init>", "([C)V"⟩ : MethodName)) (W := 1) rfl hown (hw _ (List.mem_of_getElem? (i := 4) rfl)) (hw _ (List.mem_of_getElem? (i := 5) rfl)) (hw _ (List.mem_of_getElem? (i := 6) rfl)) (hw _ (List.mem_of_getElem? (i := 2) rfl)) (by decide) (su10 l Z a0 hw sx ax 1 0 (own_c3 ca ca ca) cs hp96 n0 Z0 old_sx (Ne.symm ne_sx_ax) E_sx F_coder_sx F_value_sx A_ax S_COMPACT_STRINGS S__assertionsDisabled S_HI_BYTE_SHIFT S_LO_BYTE_SHIFT (by decide) (by decide) (fun j hj => absurd hj (Nat.not_lt_zero j)) g_ca (own_bd bd_ca bd_ca bd_ca 1) hcs) (by decide) (by decide) (a := sx) (g := (mkF m 58 #[.val (.int q1), .val (.int q2), .val (.int q3), .val (.int q4), .val (.int len), .val (.int ca), .val (.int cb), .val (.int cc), .unset, .unset] [(.ref ax), (.ref sx), (.ref sx)])) rfl (by rw [hml]; rfl) (argsL := [(.ref ax)]) (rest := [(.ref sx)]) (lenOf pd_16 rfl) rfl (by show 2 * 0 + _ ≤ _; exact Nat.le_of_eq rfl) (hb hby at_58) rfl e96 (by decide) (by decide)
        obtain ⟨t1, rfl, Nq97, Kq97, fq97_t1, q97_0, q97_1, q97_2, q97_3⟩ := hQ97
        have ne_sx_t1 : sx ≠ t1 := Nat.ne_of_lt (Nat.lt_of_lt_of_le E_sx.lt fq97_t1)
        have ne_ax_t1 : ax ≠ t1 := Nat.ne_of_lt (Nat.lt_of_lt_of_le A_ax.lt fq97_t1)
        have old_t1 : n0 ≤ t1 := Nat.le_trans Z0 fq97_t1
        have hpl_Kq97 : ∀ w ∈ [sx], ∃ c : Cell, hp96[w]? = some c ∧ c.vm.isStatics = false := (allS (own_pl_exa E_sx) all0)
        have Z0 := Nat.le_trans Z0 Kq97.1
        have hk := Nat.le_trans hk Kq97.1
        have CH := CH.trans (CHr.keep Kq97 (allS (own_safe_null hZ.alike E_sx F_value_sx) all0) CH.1)
        have S_COMPACT_STRINGS := own_sta_keep S_COMPACT_STRINGS Kq97 hpl_Kq97
        have S_SIOOBE_FORMATTER := own_sta_keep S_SIOOBE_FORMATTER Kq97 hpl_Kq97
        have S__assertionsDisabled := own_sta_keep S__assertionsDisabled Kq97 hpl_Kq97
        have S_HI_BYTE_SHIFT := own_sta_keep S_HI_BYTE_SHIFT Kq97 hpl_Kq97
        have S_LO_BYTE_SHIFT := own_sta_keep S_LO_BYTE_SHIFT Kq97 hpl_Kq97
        have A_ax := A_ax.keep Kq97 (ninS (Ne.symm ne_sx_ax) nin0)
        have Nr97 := Fr.app Nf96 Nq97
        have E_sx := q97_0
        have F_coder_sx := q97_1
        have F_value_sx := q97_2
        have A_t1 := q97_3
        refine own_stW st97 ?_
        show OGoW p e below s room_1 Z _ (OLawQ n0) (T97.setTop (mkF m 61 #[.val (.int q1), .val (.int q2), .val (.int q3), .val (.int q4), .val (.int len), .val (.int ca), .val (.int cb), .val (.int cc), .unset, .unset] [(.ref sx)]))
        refine own_stW (fun tt zk => XS.astore X97.here hx rfl (hb hby at_61) rfl rfl (l' := #[.val (.int q1), .val (.int q2), .val (.int q3), .val (.int q4), .val (.int len), .val (.int ca), .val (.int cb), .val (.int cc), .val (.ref sx), .unset]) rfl zk) ?_
        show OGoW p e below s room_1 Z _ (OLawQ n0) (T97.setTop (mkF m 63 #[.val (.int q1), .val (.int q2), .val (.int q3), .val (.int q4), .val (.int len), .val (.int ca), .val (.int cb), .val (.int cc), .val (.ref sx), .unset] []))
        refine own_stW (fun tt zk => XS.iload X97.here hx rfl (hb hby at_63) rfl zk) ?_
        show OGoW p e below s room_1 Z _ (OLawQ n0) (T97.setTop (mkF m 65 #[.val (.int q1), .val (.int q2), .val (.int q3), .val (.int q4), .val (.int len), .val (.int ca), .val (.int cb), .val (.int cc), .val (.ref sx), .unset] [(.int ca)]))
        by_cases h_ca : own_okb ca = true
        · obtain ⟨T98, X98, e98, st98⟩ := own_callSP X97 hx hZ (y := (⟨"com/example/plain_keys/plainkeys/server/HttpGrammarIsFieldValuePinLaw", "ok", "(C)Z"⟩ : MethodName)) (W := 0) hown (hw _ (List.mem_of_getElem? (i := 47) rfl)) (hw _ (List.mem_of_getElem? (i := 48) rfl)) (hw _ (List.mem_of_getElem? (i := 49) rfl)) (hw _ (List.mem_of_getElem? (i := 50) rfl)) (by decide) (ro l Z a0 hw ca 1 T97.heap (own_obt h_ca)) (by decide) (by decide) (g := (mkF m 65 #[.val (.int q1), .val (.int q2), .val (.int q3), .val (.int q4), .val (.int len), .val (.int ca), .val (.int cb), .val (.int cc), .val (.ref sx), .unset] [(.int ca)])) rfl (by rw [hml]; rfl) (argsL := [(.int ca)]) (rest := []) (lenOf pd_18 rfl) rfl (by show 2 * 0 + _ ≤ _; exact Nat.le_of_eq rfl) (hb hby at_65) rfl rfl (by decide) (by decide)
          refine own_stW st98 ?_
          show OGoW p e below s room_1 Z _ (OLawQ n0) (T98.setTop (mkF m 68 #[.val (.int q1), .val (.int q2), .val (.int q3), .val (.int q4), .val (.int len), .val (.int ca), .val (.int cb), .val (.int cc), .val (.ref sx), .unset] [(.int (1 : Int32))]))
          refine own_stW (fun tt zk => XS.istore X98.here hx rfl (hb hby at_68) rfl (l' := #[.val (.int q1), .val (.int q2), .val (.int q3), .val (.int q4), .val (.int len), .val (.int ca), .val (.int cb), .val (.int cc), .val (.ref sx), .val (.int (1 : Int32))]) rfl zk) ?_
          show OGoW p e below s room_1 Z _ (OLawQ n0) (T98.setTop (mkF m 70 #[.val (.int q1), .val (.int q2), .val (.int q3), .val (.int q4), .val (.int len), .val (.int ca), .val (.int cb), .val (.int cc), .val (.ref sx), .val (.int (1 : Int32))] []))
          refine own_stW (fun tt zk => XS.goto X98.here hx rfl (pc0 := 70) (pc' := 185) rfl (hb hby at_70) (by decide) (by decide) zk) ?_
          show OGoW p e below s room_1 Z _ (OLawQ n0) (T98.setTop (mkF m 185 #[.val (.int q1), .val (.int q2), .val (.int q3), .val (.int q4), .val (.int len), .val (.int ca), .val (.int cb), .val (.int cc), .val (.ref sx), .val (.int (1 : Int32))] []))
          refine own_stW (fun tt zk => XS.aload X98.here hx rfl (hb hby at_185) rfl rfl zk) ?_
          show OGoW p e below s room_1 Z _ (OLawQ n0) (T98.setTop (mkF m 187 #[.val (.int q1), .val (.int q2), .val (.int q3), .val (.int q4), .val (.int len), .val (.int ca), .val (.int cb), .val (.int cc), .val (.ref sx), .val (.int (1 : Int32))] [(.ref sx)]))
          obtain ⟨T100, X100, e100, st100⟩ := own_callSP X98 hx hZ (y := (⟨"com/example/plain_keys/plainkeys/server/HttpGrammar", "isFieldValue", "(Ljava/lang/String;)Z"⟩ : MethodName)) (W := 0) hown (hw _ (List.mem_of_getElem? (i := 22) rfl)) (hw _ (List.mem_of_getElem? (i := 23) rfl)) (hw _ (List.mem_of_getElem? (i := 24) rfl)) (hw _ (List.mem_of_getElem? (i := 25) rfl)) (by decide) (riU l Z a0 hw sx t1 1 (own_c3 ca ca ca) cs fm (1 : Int32) T97.heap E_sx F_coder_sx F_value_sx A_t1 S_COMPACT_STRINGS S_SIOOBE_FORMATTER S__assertionsDisabled S_HI_BYTE_SHIFT S_LO_BYTE_SHIFT hcs cat_fm ir_fm (by decide) (own_bd bd_ca bd_ca bd_ca 1) (by simp [own_from, own_c3, own_c0, OB, hl0, hl1, h_ca])) (by decide) (by decide) (g := (mkF m 187 #[.val (.int q1), .val (.int q2), .val (.int q3), .val (.int q4), .val (.int len), .val (.int ca), .val (.int cb), .val (.int cc), .val (.ref sx), .val (.int (1 : Int32))] [(.ref sx)])) rfl (by rw [hml]; rfl) (argsL := [(.ref sx)]) (rest := []) (lenOf pd_17 rfl) rfl (by show 2 * 0 + _ ≤ _; exact Nat.le_of_eq rfl) (hb hby at_187) rfl e98 (by decide) (by decide)
          refine own_stW st100 ?_
          show OGoW p e below s room_1 Z _ (OLawQ n0) (T100.setTop (mkF m 190 #[.val (.int q1), .val (.int q2), .val (.int q3), .val (.int q4), .val (.int len), .val (.int ca), .val (.int cb), .val (.int cc), .val (.ref sx), .val (.int (1 : Int32))] [(.int (1 : Int32))]))
          refine own_stW (fun tt zk => XS.iload X100.here hx rfl (hb hby at_190) rfl zk) ?_
          show OGoW p e below s room_1 Z _ (OLawQ n0) (T100.setTop (mkF m 192 #[.val (.int q1), .val (.int q2), .val (.int q3), .val (.int q4), .val (.int len), .val (.int ca), .val (.int cb), .val (.int cc), .val (.ref sx), .val (.int (1 : Int32))] [(.int (1 : Int32)), (.int (1 : Int32))]))
          refine own_stW (fun tt zk => XS.icmpNo X100.here hx rfl (hb hby at_192) rfl (teq (rfl)).2 zk) ?_
          show OGoW p e below s room_1 Z _ (OLawQ n0) (T100.setTop (mkF m 195 #[.val (.int q1), .val (.int q2), .val (.int q3), .val (.int q4), .val (.int len), .val (.int ca), .val (.int cb), .val (.int cc), .val (.ref sx), .val (.int (1 : Int32))] []))
          refine own_stW (fun tt zk => XS.iconst X100.here hx rfl (hb hby at_195) zk) ?_
          show OGoW p e below s room_1 Z _ (OLawQ n0) (T100.setTop (mkF m 196 #[.val (.int q1), .val (.int q2), .val (.int q3), .val (.int q4), .val (.int len), .val (.int ca), .val (.int cb), .val (.int cc), .val (.ref sx), .val (.int (1 : Int32))] [(.int (1 : Int32))]))
          refine own_stW (fun tt zk => XS.goto X100.here hx rfl (pc0 := 196) (pc' := 200) rfl (hb hby at_196) (by decide) (by decide) zk) ?_
          show OGoW p e below s room_1 Z _ (OLawQ n0) (T100.setTop (mkF m 200 #[.val (.int q1), .val (.int q2), .val (.int q3), .val (.int q4), .val (.int len), .val (.int ca), .val (.int cb), .val (.int cc), .val (.ref sx), .val (.int (1 : Int32))] [(.int (1 : Int32))]))
          exact own_retWN X100 hx hlk (t := .boolean) hret (by simp) (hb hby at_200) (by decide) (by decide) hS e100 es hk hZ hEL CH (⟨rfl, Nr97⟩)
        · obtain ⟨T99, X99, e99, st99⟩ := own_callSP X97 hx hZ (y := (⟨"com/example/plain_keys/plainkeys/server/HttpGrammarIsFieldValuePinLaw", "ok", "(C)Z"⟩ : MethodName)) (W := 0) hown (hw _ (List.mem_of_getElem? (i := 47) rfl)) (hw _ (List.mem_of_getElem? (i := 48) rfl)) (hw _ (List.mem_of_getElem? (i := 49) rfl)) (hw _ (List.mem_of_getElem? (i := 50) rfl)) (by decide) (ro l Z a0 hw ca 0 T97.heap (own_obf h_ca)) (by decide) (by decide) (g := (mkF m 65 #[.val (.int q1), .val (.int q2), .val (.int q3), .val (.int q4), .val (.int len), .val (.int ca), .val (.int cb), .val (.int cc), .val (.ref sx), .unset] [(.int ca)])) rfl (by rw [hml]; rfl) (argsL := [(.int ca)]) (rest := []) (lenOf pd_18 rfl) rfl (by show 2 * 0 + _ ≤ _; exact Nat.le_of_eq rfl) (hb hby at_65) rfl rfl (by decide) (by decide)
          refine own_stW st99 ?_
          show OGoW p e below s room_1 Z _ (OLawQ n0) (T99.setTop (mkF m 68 #[.val (.int q1), .val (.int q2), .val (.int q3), .val (.int q4), .val (.int len), .val (.int ca), .val (.int cb), .val (.int cc), .val (.ref sx), .unset] [(.int (0 : Int32))]))
          refine own_stW (fun tt zk => XS.istore X99.here hx rfl (hb hby at_68) rfl (l' := #[.val (.int q1), .val (.int q2), .val (.int q3), .val (.int q4), .val (.int len), .val (.int ca), .val (.int cb), .val (.int cc), .val (.ref sx), .val (.int (0 : Int32))]) rfl zk) ?_
          show OGoW p e below s room_1 Z _ (OLawQ n0) (T99.setTop (mkF m 70 #[.val (.int q1), .val (.int q2), .val (.int q3), .val (.int q4), .val (.int len), .val (.int ca), .val (.int cb), .val (.int cc), .val (.ref sx), .val (.int (0 : Int32))] []))
          refine own_stW (fun tt zk => XS.goto X99.here hx rfl (pc0 := 70) (pc' := 185) rfl (hb hby at_70) (by decide) (by decide) zk) ?_
          show OGoW p e below s room_1 Z _ (OLawQ n0) (T99.setTop (mkF m 185 #[.val (.int q1), .val (.int q2), .val (.int q3), .val (.int q4), .val (.int len), .val (.int ca), .val (.int cb), .val (.int cc), .val (.ref sx), .val (.int (0 : Int32))] []))
          refine own_stW (fun tt zk => XS.aload X99.here hx rfl (hb hby at_185) rfl rfl zk) ?_
          show OGoW p e below s room_1 Z _ (OLawQ n0) (T99.setTop (mkF m 187 #[.val (.int q1), .val (.int q2), .val (.int q3), .val (.int q4), .val (.int len), .val (.int ca), .val (.int cb), .val (.int cc), .val (.ref sx), .val (.int (0 : Int32))] [(.ref sx)]))
          obtain ⟨T101, X101, e101, st101⟩ := own_callSP X99 hx hZ (y := (⟨"com/example/plain_keys/plainkeys/server/HttpGrammar", "isFieldValue", "(Ljava/lang/String;)Z"⟩ : MethodName)) (W := 0) hown (hw _ (List.mem_of_getElem? (i := 22) rfl)) (hw _ (List.mem_of_getElem? (i := 23) rfl)) (hw _ (List.mem_of_getElem? (i := 24) rfl)) (hw _ (List.mem_of_getElem? (i := 25) rfl)) (by decide) (riU l Z a0 hw sx t1 1 (own_c3 ca ca ca) cs fm (0 : Int32) T97.heap E_sx F_coder_sx F_value_sx A_t1 S_COMPACT_STRINGS S_SIOOBE_FORMATTER S__assertionsDisabled S_HI_BYTE_SHIFT S_LO_BYTE_SHIFT hcs cat_fm ir_fm (by decide) (own_bd bd_ca bd_ca bd_ca 1) (by simp [own_from, own_c3, own_c0, OB, hl0, hl1, h_ca])) (by decide) (by decide) (g := (mkF m 187 #[.val (.int q1), .val (.int q2), .val (.int q3), .val (.int q4), .val (.int len), .val (.int ca), .val (.int cb), .val (.int cc), .val (.ref sx), .val (.int (0 : Int32))] [(.ref sx)])) rfl (by rw [hml]; rfl) (argsL := [(.ref sx)]) (rest := []) (lenOf pd_17 rfl) rfl (by show 2 * 0 + _ ≤ _; exact Nat.le_of_eq rfl) (hb hby at_187) rfl e99 (by decide) (by decide)
          refine own_stW st101 ?_
          show OGoW p e below s room_1 Z _ (OLawQ n0) (T101.setTop (mkF m 190 #[.val (.int q1), .val (.int q2), .val (.int q3), .val (.int q4), .val (.int len), .val (.int ca), .val (.int cb), .val (.int cc), .val (.ref sx), .val (.int (0 : Int32))] [(.int (0 : Int32))]))
          refine own_stW (fun tt zk => XS.iload X101.here hx rfl (hb hby at_190) rfl zk) ?_
          show OGoW p e below s room_1 Z _ (OLawQ n0) (T101.setTop (mkF m 192 #[.val (.int q1), .val (.int q2), .val (.int q3), .val (.int q4), .val (.int len), .val (.int ca), .val (.int cb), .val (.int cc), .val (.ref sx), .val (.int (0 : Int32))] [(.int (0 : Int32)), (.int (0 : Int32))]))
          refine own_stW (fun tt zk => XS.icmpNo X101.here hx rfl (hb hby at_192) rfl (teq (rfl)).2 zk) ?_
          show OGoW p e below s room_1 Z _ (OLawQ n0) (T101.setTop (mkF m 195 #[.val (.int q1), .val (.int q2), .val (.int q3), .val (.int q4), .val (.int len), .val (.int ca), .val (.int cb), .val (.int cc), .val (.ref sx), .val (.int (0 : Int32))] []))
          refine own_stW (fun tt zk => XS.iconst X101.here hx rfl (hb hby at_195) zk) ?_
          show OGoW p e below s room_1 Z _ (OLawQ n0) (T101.setTop (mkF m 196 #[.val (.int q1), .val (.int q2), .val (.int q3), .val (.int q4), .val (.int len), .val (.int ca), .val (.int cb), .val (.int cc), .val (.ref sx), .val (.int (0 : Int32))] [(.int (1 : Int32))]))
          refine own_stW (fun tt zk => XS.goto X101.here hx rfl (pc0 := 196) (pc' := 200) rfl (hb hby at_196) (by decide) (by decide) zk) ?_
          show OGoW p e below s room_1 Z _ (OLawQ n0) (T101.setTop (mkF m 200 #[.val (.int q1), .val (.int q2), .val (.int q3), .val (.int q4), .val (.int len), .val (.int ca), .val (.int cb), .val (.int cc), .val (.ref sx), .val (.int (0 : Int32))] [(.int (1 : Int32))]))
          exact own_retWN X101 hx hlk (t := .boolean) hret (by simp) (hb hby at_200) (by decide) (by decide) hS e101 es hk hZ hEL CH (⟨rfl, Nr97⟩)
      · obtain ⟨_, T102, Lc102, X102, hQ102, st102⟩ := own_callI X96 hx hZ (y := (⟨"java/lang/String", "<init>", "([C)V"⟩ : MethodName)) (W := 1) rfl hown (hw _ (List.mem_of_getElem? (i := 4) rfl)) (hw _ (List.mem_of_getElem? (i := 5) rfl)) (hw _ (List.mem_of_getElem? (i := 6) rfl)) (hw _ (List.mem_of_getElem? (i := 2) rfl)) (by decide) (sc5 l Z a0 hw sx ax 1 (own_c3 ca ca ca) cs hp96 n0 Z0 old_sx (Ne.symm ne_sx_ax) E_sx F_coder_sx F_value_sx A_ax S_COMPACT_STRINGS (by decide) (by decide) (own_le1 g_ca) hcs) (by decide) (by decide) (a := sx) (g := (mkF m 58 #[.val (.int q1), .val (.int q2), .val (.int q3), .val (.int q4), .val (.int len), .val (.int ca), .val (.int cb), .val (.int cc), .unset, .unset] [(.ref ax), (.ref sx), (.ref sx)])) rfl (by rw [hml]; rfl) (argsL := [(.ref ax)]) (rest := [(.ref sx)]) (lenOf pd_16 rfl) rfl (by show 2 * 0 + _ ≤ _; exact Nat.le_of_eq rfl) (hb hby at_58) rfl e96 (by decide) (by decide)
        obtain ⟨t1, rfl, Nq102, Kq102, fq102_t1, q102_0, q102_1, q102_2, q102_3⟩ := hQ102
        have ne_sx_t1 : sx ≠ t1 := Nat.ne_of_lt (Nat.lt_of_lt_of_le E_sx.lt fq102_t1)
        have ne_ax_t1 : ax ≠ t1 := Nat.ne_of_lt (Nat.lt_of_lt_of_le A_ax.lt fq102_t1)
        have old_t1 : n0 ≤ t1 := Nat.le_trans Z0 fq102_t1
        have hpl_Kq102 : ∀ w ∈ [sx], ∃ c : Cell, hp96[w]? = some c ∧ c.vm.isStatics = false := (allS (own_pl_exa E_sx) all0)
        have Z0 := Nat.le_trans Z0 Kq102.1
        have hk := Nat.le_trans hk Kq102.1
        have CH := CH.trans (CHr.keep Kq102 (allS (own_safe_null hZ.alike E_sx F_value_sx) all0) CH.1)
        have S_COMPACT_STRINGS := own_sta_keep S_COMPACT_STRINGS Kq102 hpl_Kq102
        have S_SIOOBE_FORMATTER := own_sta_keep S_SIOOBE_FORMATTER Kq102 hpl_Kq102
        have S__assertionsDisabled := own_sta_keep S__assertionsDisabled Kq102 hpl_Kq102
        have S_HI_BYTE_SHIFT := own_sta_keep S_HI_BYTE_SHIFT Kq102 hpl_Kq102
        have S_LO_BYTE_SHIFT := own_sta_keep S_LO_BYTE_SHIFT Kq102 hpl_Kq102
        have A_ax := A_ax.keep Kq102 (ninS (Ne.symm ne_sx_ax) nin0)
        have Nr102 := Fr.app Nf96 Nq102
        have E_sx := q102_0
        have F_coder_sx := q102_1
        have F_value_sx := q102_2
        have A_t1 := q102_3
        refine own_stW st102 ?_
        show OGoW p e below s room_1 Z _ (OLawQ n0) (T102.setTop (mkF m 61 #[.val (.int q1), .val (.int q2), .val (.int q3), .val (.int q4), .val (.int len), .val (.int ca), .val (.int cb), .val (.int cc), .unset, .unset] [(.ref sx)]))
        refine own_stW (fun tt zk => XS.astore X102.here hx rfl (hb hby at_61) rfl rfl (l' := #[.val (.int q1), .val (.int q2), .val (.int q3), .val (.int q4), .val (.int len), .val (.int ca), .val (.int cb), .val (.int cc), .val (.ref sx), .unset]) rfl zk) ?_
        show OGoW p e below s room_1 Z _ (OLawQ n0) (T102.setTop (mkF m 63 #[.val (.int q1), .val (.int q2), .val (.int q3), .val (.int q4), .val (.int len), .val (.int ca), .val (.int cb), .val (.int cc), .val (.ref sx), .unset] []))
        refine own_stW (fun tt zk => XS.iload X102.here hx rfl (hb hby at_63) rfl zk) ?_
        show OGoW p e below s room_1 Z _ (OLawQ n0) (T102.setTop (mkF m 65 #[.val (.int q1), .val (.int q2), .val (.int q3), .val (.int q4), .val (.int len), .val (.int ca), .val (.int cb), .val (.int cc), .val (.ref sx), .unset] [(.int ca)]))
        by_cases h_ca : own_okb ca = true
        · obtain ⟨T103, X103, e103, st103⟩ := own_callSP X102 hx hZ (y := (⟨"com/example/plain_keys/plainkeys/server/HttpGrammarIsFieldValuePinLaw", "ok", "(C)Z"⟩ : MethodName)) (W := 0) hown (hw _ (List.mem_of_getElem? (i := 47) rfl)) (hw _ (List.mem_of_getElem? (i := 48) rfl)) (hw _ (List.mem_of_getElem? (i := 49) rfl)) (hw _ (List.mem_of_getElem? (i := 50) rfl)) (by decide) (ro l Z a0 hw ca 1 T102.heap (own_obt h_ca)) (by decide) (by decide) (g := (mkF m 65 #[.val (.int q1), .val (.int q2), .val (.int q3), .val (.int q4), .val (.int len), .val (.int ca), .val (.int cb), .val (.int cc), .val (.ref sx), .unset] [(.int ca)])) rfl (by rw [hml]; rfl) (argsL := [(.int ca)]) (rest := []) (lenOf pd_18 rfl) rfl (by show 2 * 0 + _ ≤ _; exact Nat.le_of_eq rfl) (hb hby at_65) rfl rfl (by decide) (by decide)
          refine own_stW st103 ?_
          show OGoW p e below s room_1 Z _ (OLawQ n0) (T103.setTop (mkF m 68 #[.val (.int q1), .val (.int q2), .val (.int q3), .val (.int q4), .val (.int len), .val (.int ca), .val (.int cb), .val (.int cc), .val (.ref sx), .unset] [(.int (1 : Int32))]))
          refine own_stW (fun tt zk => XS.istore X103.here hx rfl (hb hby at_68) rfl (l' := #[.val (.int q1), .val (.int q2), .val (.int q3), .val (.int q4), .val (.int len), .val (.int ca), .val (.int cb), .val (.int cc), .val (.ref sx), .val (.int (1 : Int32))]) rfl zk) ?_
          show OGoW p e below s room_1 Z _ (OLawQ n0) (T103.setTop (mkF m 70 #[.val (.int q1), .val (.int q2), .val (.int q3), .val (.int q4), .val (.int len), .val (.int ca), .val (.int cb), .val (.int cc), .val (.ref sx), .val (.int (1 : Int32))] []))
          refine own_stW (fun tt zk => XS.goto X103.here hx rfl (pc0 := 70) (pc' := 185) rfl (hb hby at_70) (by decide) (by decide) zk) ?_
          show OGoW p e below s room_1 Z _ (OLawQ n0) (T103.setTop (mkF m 185 #[.val (.int q1), .val (.int q2), .val (.int q3), .val (.int q4), .val (.int len), .val (.int ca), .val (.int cb), .val (.int cc), .val (.ref sx), .val (.int (1 : Int32))] []))
          refine own_stW (fun tt zk => XS.aload X103.here hx rfl (hb hby at_185) rfl rfl zk) ?_
          show OGoW p e below s room_1 Z _ (OLawQ n0) (T103.setTop (mkF m 187 #[.val (.int q1), .val (.int q2), .val (.int q3), .val (.int q4), .val (.int len), .val (.int ca), .val (.int cb), .val (.int cc), .val (.ref sx), .val (.int (1 : Int32))] [(.ref sx)]))
          obtain ⟨T105, X105, e105, st105⟩ := own_callSP X103 hx hZ (y := (⟨"com/example/plain_keys/plainkeys/server/HttpGrammar", "isFieldValue", "(Ljava/lang/String;)Z"⟩ : MethodName)) (W := 0) hown (hw _ (List.mem_of_getElem? (i := 22) rfl)) (hw _ (List.mem_of_getElem? (i := 23) rfl)) (hw _ (List.mem_of_getElem? (i := 24) rfl)) (hw _ (List.mem_of_getElem? (i := 25) rfl)) (by decide) (riL l Z a0 hw sx t1 1 (own_c3 ca ca ca) cs fm (1 : Int32) T102.heap E_sx F_coder_sx F_value_sx A_t1 S_COMPACT_STRINGS S_SIOOBE_FORMATTER hcs cat_fm ir_fm (by decide) (own_bd bd_ca bd_ca bd_ca 1) (own_le1 g_ca) (by simp [own_from, own_c3, own_c0, OB, hl0, hl1, h_ca])) (by decide) (by decide) (g := (mkF m 187 #[.val (.int q1), .val (.int q2), .val (.int q3), .val (.int q4), .val (.int len), .val (.int ca), .val (.int cb), .val (.int cc), .val (.ref sx), .val (.int (1 : Int32))] [(.ref sx)])) rfl (by rw [hml]; rfl) (argsL := [(.ref sx)]) (rest := []) (lenOf pd_17 rfl) rfl (by show 2 * 0 + _ ≤ _; exact Nat.le_of_eq rfl) (hb hby at_187) rfl e103 (by decide) (by decide)
          refine own_stW st105 ?_
          show OGoW p e below s room_1 Z _ (OLawQ n0) (T105.setTop (mkF m 190 #[.val (.int q1), .val (.int q2), .val (.int q3), .val (.int q4), .val (.int len), .val (.int ca), .val (.int cb), .val (.int cc), .val (.ref sx), .val (.int (1 : Int32))] [(.int (1 : Int32))]))
          refine own_stW (fun tt zk => XS.iload X105.here hx rfl (hb hby at_190) rfl zk) ?_
          show OGoW p e below s room_1 Z _ (OLawQ n0) (T105.setTop (mkF m 192 #[.val (.int q1), .val (.int q2), .val (.int q3), .val (.int q4), .val (.int len), .val (.int ca), .val (.int cb), .val (.int cc), .val (.ref sx), .val (.int (1 : Int32))] [(.int (1 : Int32)), (.int (1 : Int32))]))
          refine own_stW (fun tt zk => XS.icmpNo X105.here hx rfl (hb hby at_192) rfl (teq (rfl)).2 zk) ?_
          show OGoW p e below s room_1 Z _ (OLawQ n0) (T105.setTop (mkF m 195 #[.val (.int q1), .val (.int q2), .val (.int q3), .val (.int q4), .val (.int len), .val (.int ca), .val (.int cb), .val (.int cc), .val (.ref sx), .val (.int (1 : Int32))] []))
          refine own_stW (fun tt zk => XS.iconst X105.here hx rfl (hb hby at_195) zk) ?_
          show OGoW p e below s room_1 Z _ (OLawQ n0) (T105.setTop (mkF m 196 #[.val (.int q1), .val (.int q2), .val (.int q3), .val (.int q4), .val (.int len), .val (.int ca), .val (.int cb), .val (.int cc), .val (.ref sx), .val (.int (1 : Int32))] [(.int (1 : Int32))]))
          refine own_stW (fun tt zk => XS.goto X105.here hx rfl (pc0 := 196) (pc' := 200) rfl (hb hby at_196) (by decide) (by decide) zk) ?_
          show OGoW p e below s room_1 Z _ (OLawQ n0) (T105.setTop (mkF m 200 #[.val (.int q1), .val (.int q2), .val (.int q3), .val (.int q4), .val (.int len), .val (.int ca), .val (.int cb), .val (.int cc), .val (.ref sx), .val (.int (1 : Int32))] [(.int (1 : Int32))]))
          exact own_retWN X105 hx hlk (t := .boolean) hret (by simp) (hb hby at_200) (by decide) (by decide) hS e105 es hk hZ hEL CH (⟨rfl, Nr102⟩)
        · obtain ⟨T104, X104, e104, st104⟩ := own_callSP X102 hx hZ (y := (⟨"com/example/plain_keys/plainkeys/server/HttpGrammarIsFieldValuePinLaw", "ok", "(C)Z"⟩ : MethodName)) (W := 0) hown (hw _ (List.mem_of_getElem? (i := 47) rfl)) (hw _ (List.mem_of_getElem? (i := 48) rfl)) (hw _ (List.mem_of_getElem? (i := 49) rfl)) (hw _ (List.mem_of_getElem? (i := 50) rfl)) (by decide) (ro l Z a0 hw ca 0 T102.heap (own_obf h_ca)) (by decide) (by decide) (g := (mkF m 65 #[.val (.int q1), .val (.int q2), .val (.int q3), .val (.int q4), .val (.int len), .val (.int ca), .val (.int cb), .val (.int cc), .val (.ref sx), .unset] [(.int ca)])) rfl (by rw [hml]; rfl) (argsL := [(.int ca)]) (rest := []) (lenOf pd_18 rfl) rfl (by show 2 * 0 + _ ≤ _; exact Nat.le_of_eq rfl) (hb hby at_65) rfl rfl (by decide) (by decide)
          refine own_stW st104 ?_
          show OGoW p e below s room_1 Z _ (OLawQ n0) (T104.setTop (mkF m 68 #[.val (.int q1), .val (.int q2), .val (.int q3), .val (.int q4), .val (.int len), .val (.int ca), .val (.int cb), .val (.int cc), .val (.ref sx), .unset] [(.int (0 : Int32))]))
          refine own_stW (fun tt zk => XS.istore X104.here hx rfl (hb hby at_68) rfl (l' := #[.val (.int q1), .val (.int q2), .val (.int q3), .val (.int q4), .val (.int len), .val (.int ca), .val (.int cb), .val (.int cc), .val (.ref sx), .val (.int (0 : Int32))]) rfl zk) ?_
          show OGoW p e below s room_1 Z _ (OLawQ n0) (T104.setTop (mkF m 70 #[.val (.int q1), .val (.int q2), .val (.int q3), .val (.int q4), .val (.int len), .val (.int ca), .val (.int cb), .val (.int cc), .val (.ref sx), .val (.int (0 : Int32))] []))
          refine own_stW (fun tt zk => XS.goto X104.here hx rfl (pc0 := 70) (pc' := 185) rfl (hb hby at_70) (by decide) (by decide) zk) ?_
          show OGoW p e below s room_1 Z _ (OLawQ n0) (T104.setTop (mkF m 185 #[.val (.int q1), .val (.int q2), .val (.int q3), .val (.int q4), .val (.int len), .val (.int ca), .val (.int cb), .val (.int cc), .val (.ref sx), .val (.int (0 : Int32))] []))
          refine own_stW (fun tt zk => XS.aload X104.here hx rfl (hb hby at_185) rfl rfl zk) ?_
          show OGoW p e below s room_1 Z _ (OLawQ n0) (T104.setTop (mkF m 187 #[.val (.int q1), .val (.int q2), .val (.int q3), .val (.int q4), .val (.int len), .val (.int ca), .val (.int cb), .val (.int cc), .val (.ref sx), .val (.int (0 : Int32))] [(.ref sx)]))
          obtain ⟨T106, X106, e106, st106⟩ := own_callSP X104 hx hZ (y := (⟨"com/example/plain_keys/plainkeys/server/HttpGrammar", "isFieldValue", "(Ljava/lang/String;)Z"⟩ : MethodName)) (W := 0) hown (hw _ (List.mem_of_getElem? (i := 22) rfl)) (hw _ (List.mem_of_getElem? (i := 23) rfl)) (hw _ (List.mem_of_getElem? (i := 24) rfl)) (hw _ (List.mem_of_getElem? (i := 25) rfl)) (by decide) (riL l Z a0 hw sx t1 1 (own_c3 ca ca ca) cs fm (0 : Int32) T102.heap E_sx F_coder_sx F_value_sx A_t1 S_COMPACT_STRINGS S_SIOOBE_FORMATTER hcs cat_fm ir_fm (by decide) (own_bd bd_ca bd_ca bd_ca 1) (own_le1 g_ca) (by simp [own_from, own_c3, own_c0, OB, hl0, hl1, h_ca])) (by decide) (by decide) (g := (mkF m 187 #[.val (.int q1), .val (.int q2), .val (.int q3), .val (.int q4), .val (.int len), .val (.int ca), .val (.int cb), .val (.int cc), .val (.ref sx), .val (.int (0 : Int32))] [(.ref sx)])) rfl (by rw [hml]; rfl) (argsL := [(.ref sx)]) (rest := []) (lenOf pd_17 rfl) rfl (by show 2 * 0 + _ ≤ _; exact Nat.le_of_eq rfl) (hb hby at_187) rfl e104 (by decide) (by decide)
          refine own_stW st106 ?_
          show OGoW p e below s room_1 Z _ (OLawQ n0) (T106.setTop (mkF m 190 #[.val (.int q1), .val (.int q2), .val (.int q3), .val (.int q4), .val (.int len), .val (.int ca), .val (.int cb), .val (.int cc), .val (.ref sx), .val (.int (0 : Int32))] [(.int (0 : Int32))]))
          refine own_stW (fun tt zk => XS.iload X106.here hx rfl (hb hby at_190) rfl zk) ?_
          show OGoW p e below s room_1 Z _ (OLawQ n0) (T106.setTop (mkF m 192 #[.val (.int q1), .val (.int q2), .val (.int q3), .val (.int q4), .val (.int len), .val (.int ca), .val (.int cb), .val (.int cc), .val (.ref sx), .val (.int (0 : Int32))] [(.int (0 : Int32)), (.int (0 : Int32))]))
          refine own_stW (fun tt zk => XS.icmpNo X106.here hx rfl (hb hby at_192) rfl (teq (rfl)).2 zk) ?_
          show OGoW p e below s room_1 Z _ (OLawQ n0) (T106.setTop (mkF m 195 #[.val (.int q1), .val (.int q2), .val (.int q3), .val (.int q4), .val (.int len), .val (.int ca), .val (.int cb), .val (.int cc), .val (.ref sx), .val (.int (0 : Int32))] []))
          refine own_stW (fun tt zk => XS.iconst X106.here hx rfl (hb hby at_195) zk) ?_
          show OGoW p e below s room_1 Z _ (OLawQ n0) (T106.setTop (mkF m 196 #[.val (.int q1), .val (.int q2), .val (.int q3), .val (.int q4), .val (.int len), .val (.int ca), .val (.int cb), .val (.int cc), .val (.ref sx), .val (.int (0 : Int32))] [(.int (1 : Int32))]))
          refine own_stW (fun tt zk => XS.goto X106.here hx rfl (pc0 := 196) (pc' := 200) rfl (hb hby at_196) (by decide) (by decide) zk) ?_
          show OGoW p e below s room_1 Z _ (OLawQ n0) (T106.setTop (mkF m 200 #[.val (.int q1), .val (.int q2), .val (.int q3), .val (.int q4), .val (.int len), .val (.int ca), .val (.int cb), .val (.int cc), .val (.ref sx), .val (.int (0 : Int32))] [(.int (1 : Int32))]))
          exact own_retWN X106 hx hlk (t := .boolean) hret (by simp) (hb hby at_200) (by decide) (by decide) hS e106 es hk hZ hEL CH (⟨rfl, Nr102⟩)
    · refine own_stW (fun tt zk => XS.icmpYes X0.here hx rfl (pc0 := 43) (pc' := 73) rfl (hb hby at_43) rfl (feq (hl1)).2 (by decide) (by decide) zk) ?_
      show OGoW p e below s room_1 Z _ (OLawQ n0) (T0.setTop (mkF m 73 #[.val (.int q1), .val (.int q2), .val (.int q3), .val (.int q4), .val (.int len), .val (.int ca), .val (.int cb), .val (.int cc), .unset, .unset] []))
      refine own_stW (fun tt zk => XS.iload X0.here hx rfl (hb hby at_73) rfl zk) ?_
      show OGoW p e below s room_1 Z _ (OLawQ n0) (T0.setTop (mkF m 75 #[.val (.int q1), .val (.int q2), .val (.int q3), .val (.int q4), .val (.int len), .val (.int ca), .val (.int cb), .val (.int cc), .unset, .unset] [(.int len)]))
      refine own_stW (fun tt zk => XS.iconst X0.here hx rfl (hb hby at_75) zk) ?_
      show OGoW p e below s room_1 Z _ (OLawQ n0) (T0.setTop (mkF m 76 #[.val (.int q1), .val (.int q2), .val (.int q3), .val (.int q4), .val (.int len), .val (.int ca), .val (.int cb), .val (.int cc), .unset, .unset] [(.int (2 : Int32)), (.int len)]))
      by_cases hl2 : len = (2 : Int32)
      · refine own_stW (fun tt zk => XS.icmpNo X0.here hx rfl (hb hby at_76) rfl (teq (hl2)).2 zk) ?_
        show OGoW p e below s room_1 Z _ (OLawQ n0) (T0.setTop (mkF m 79 #[.val (.int q1), .val (.int q2), .val (.int q3), .val (.int q4), .val (.int len), .val (.int ca), .val (.int cb), .val (.int cc), .unset, .unset] []))
        obtain ⟨T107, hp107, X107, e107, Ex107, Aa107, Dd107, -, st107⟩ := newO X0 hx hZ hown (hw _ (List.mem_of_getElem? (i := 0) rfl)) (hw _ (List.mem_of_getElem? (i := 1) rfl)) (hw _ (List.mem_of_getElem? (i := 2) rfl)) e0 (g := (mkF m 79 #[.val (.int q1), .val (.int q2), .val (.int q3), .val (.int q4), .val (.int len), .val (.int ca), .val (.int cb), .val (.int cc), .unset, .unset] [])) rfl (hb hby at_79) (by decide) (by decide)
        obtain ⟨sx, gs107⟩ : ∃ z, z = h0.size := ⟨_, rfl⟩
        rw [← gs107] at Aa107 Dd107 st107
        have old_sx : n0 ≤ sx := Nat.le_trans Z0 (Nat.le_of_eq gs107.symm)
        have Z0 := Nat.le_trans Z0 Ex107.1
        have hk := Nat.le_trans hk Ex107.1
        have CH := CH.trans (CHr.ext Ex107 CH.1)
        have S_COMPACT_STRINGS := S_COMPACT_STRINGS.ext Ex107
        have S_SIOOBE_FORMATTER := S_SIOOBE_FORMATTER.ext Ex107
        have S__assertionsDisabled := S__assertionsDisabled.ext Ex107
        have S_HI_BYTE_SHIFT := S_HI_BYTE_SHIFT.ext Ex107
        have S_LO_BYTE_SHIFT := S_LO_BYTE_SHIFT.ext Ex107
        have E_sx := Aa107
        have F_value_sx : Fld Z hp107 sx "java/lang/String" "value" "[B" .null := Dd107 (Or.inr (hw _ (List.mem_of_getElem? (i := 16) rfl))) (ty := (.array .byte)) (by decide)
        have F_coder_sx : Fld Z hp107 sx "java/lang/String" "coder" "B" (.int (0 : Int32)) := Dd107 (Or.inr (hw _ (List.mem_of_getElem? (i := 17) rfl))) (ty := .byte) (by decide)
        refine own_stW st107 ?_
        show OGoW p e below s room_1 Z _ (OLawQ n0) (T107.setTop (mkF m 82 #[.val (.int q1), .val (.int q2), .val (.int q3), .val (.int q4), .val (.int len), .val (.int ca), .val (.int cb), .val (.int cc), .unset, .unset] [(.ref sx)]))
        refine own_stW (fun tt zk => XS.dup X107.here hx rfl (hb hby at_82) rfl rfl zk) ?_
        show OGoW p e below s room_1 Z _ (OLawQ n0) (T107.setTop (mkF m 83 #[.val (.int q1), .val (.int q2), .val (.int q3), .val (.int q4), .val (.int len), .val (.int ca), .val (.int cb), .val (.int cc), .unset, .unset] [(.ref sx), (.ref sx)]))
        refine own_stW (fun tt zk => XS.iconst X107.here hx rfl (hb hby at_83) zk) ?_
        show OGoW p e below s room_1 Z _ (OLawQ n0) (T107.setTop (mkF m 84 #[.val (.int q1), .val (.int q2), .val (.int q3), .val (.int q4), .val (.int len), .val (.int ca), .val (.int cb), .val (.int cc), .unset, .unset] [(.int (2 : Int32)), (.ref sx), (.ref sx)]))
        obtain ⟨T108, hp108, kk108, X108, e108, Ex108, Aa108, st108⟩ := newP X107 hx hZ (hw _ (List.mem_of_getElem? (i := 3) rfl)) e107 (g := (mkF m 84 #[.val (.int q1), .val (.int q2), .val (.int q3), .val (.int q4), .val (.int len), .val (.int ca), .val (.int cb), .val (.int cc), .unset, .unset] [(.int (2 : Int32)), (.ref sx), (.ref sx)])) rfl (hb hby at_84) rfl (by decide) (cap := 2) (by decide) (by decide) (by decide) (by decide)
        obtain ⟨ax, gs108⟩ : ∃ z, z = hp107.size := ⟨_, rfl⟩
        rw [← gs108] at Aa108 st108
        have ne_sx_ax : sx ≠ ax := Nat.ne_of_lt (Nat.lt_of_lt_of_le E_sx.lt (Nat.le_of_eq gs108.symm))
        have old_ax : n0 ≤ ax := Nat.le_trans Z0 (Nat.le_of_eq gs108.symm)
        have Z0 := Nat.le_trans Z0 Ex108.1
        have hk := Nat.le_trans hk Ex108.1
        have CH := CH.trans (CHr.ext Ex108 CH.1)
        have S_COMPACT_STRINGS := S_COMPACT_STRINGS.ext Ex108
        have S_SIOOBE_FORMATTER := S_SIOOBE_FORMATTER.ext Ex108
        have S__assertionsDisabled := S__assertionsDisabled.ext Ex108
        have S_HI_BYTE_SHIFT := S_HI_BYTE_SHIFT.ext Ex108
        have S_LO_BYTE_SHIFT := S_LO_BYTE_SHIFT.ext Ex108
        have E_sx := E_sx.ext Ex108
        have F_value_sx := F_value_sx.ext Ex108
        have F_coder_sx := F_coder_sx.ext Ex108
        have A_ax := OAr.new Aa108
        refine own_stW st108 ?_
        show OGoW p e below s room_1 Z _ (OLawQ n0) (T108.setTop (mkF m 86 #[.val (.int q1), .val (.int q2), .val (.int q3), .val (.int q4), .val (.int len), .val (.int ca), .val (.int cb), .val (.int cc), .unset, .unset] [(.ref ax), (.ref sx), (.ref sx)]))
        refine own_stW (fun tt zk => XS.dup X108.here hx rfl (hb hby at_86) rfl rfl zk) ?_
        show OGoW p e below s room_1 Z _ (OLawQ n0) (T108.setTop (mkF m 87 #[.val (.int q1), .val (.int q2), .val (.int q3), .val (.int q4), .val (.int len), .val (.int ca), .val (.int cb), .val (.int cc), .unset, .unset] [(.ref ax), (.ref ax), (.ref sx), (.ref sx)]))
        refine own_stW (fun tt zk => XS.iconst X108.here hx rfl (hb hby at_87) zk) ?_
        show OGoW p e below s room_1 Z _ (OLawQ n0) (T108.setTop (mkF m 88 #[.val (.int q1), .val (.int q2), .val (.int q3), .val (.int q4), .val (.int len), .val (.int ca), .val (.int cb), .val (.int cc), .unset, .unset] [(.int (0 : Int32)), (.ref ax), (.ref ax), (.ref sx), (.ref sx)]))
        refine own_stW (fun tt zk => XS.iload X108.here hx rfl (hb hby at_88) rfl zk) ?_
        show OGoW p e below s room_1 Z _ (OLawQ n0) (T108.setTop (mkF m 90 #[.val (.int q1), .val (.int q2), .val (.int q3), .val (.int q4), .val (.int len), .val (.int ca), .val (.int cb), .val (.int cc), .unset, .unset] [(.int ca), (.int (0 : Int32)), (.ref ax), (.ref ax), (.ref sx), (.ref sx)]))
        obtain ⟨cl109, Ar109, Sz109, Hh109⟩ := id A_ax
        obtain ⟨T109, hp109, X109, e109, Ww109, st109⟩ := stC X108 hx hZ e108 Ar109 (j := (0 : Int32)) (own_in Sz109 (by decide) (by decide)) (g := (mkF m 90 #[.val (.int q1), .val (.int q2), .val (.int q3), .val (.int q4), .val (.int len), .val (.int ca), .val (.int cb), .val (.int cc), .unset, .unset] [(.int ca), (.int (0 : Int32)), (.ref ax), (.ref ax), (.ref sx), (.ref sx)])) rfl rfl (hb hby at_90)
        have Nf109 := Fr.snoc X109 N0 old_ax
        have Z0 := Nat.le_trans Z0 (Keep.of_wr Ww109).1
        have hk := Nat.le_trans hk (Keep.of_wr Ww109).1
        have CH := CH.trans (CHr.wr Ww109 (own_safe_arr hZ.alike A_ax (by decide)) CH.1)
        have S_COMPACT_STRINGS := S_COMPACT_STRINGS.wr Ww109
        have S_SIOOBE_FORMATTER := S_SIOOBE_FORMATTER.wr Ww109
        have S__assertionsDisabled := S__assertionsDisabled.wr Ww109
        have S_HI_BYTE_SHIFT := S_HI_BYTE_SHIFT.wr Ww109
        have S_LO_BYTE_SHIFT := S_LO_BYTE_SHIFT.wr Ww109
        have E_sx := E_sx.wr Ww109
        have F_value_sx := F_value_sx.other Ww109 (Or.inl ne_sx_ax)
        have F_coder_sx := F_coder_sx.other Ww109 (Or.inl ne_sx_ax)
        have A_ax := OAr.set Ar109 Sz109 Hh109 Ww109
        refine own_stW st109 ?_
        show OGoW p e below s room_1 Z _ (OLawQ n0) (T109.setTop (mkF m 91 #[.val (.int q1), .val (.int q2), .val (.int q3), .val (.int q4), .val (.int len), .val (.int ca), .val (.int cb), .val (.int cc), .unset, .unset] [(.ref ax), (.ref sx), (.ref sx)]))
        refine own_stW (fun tt zk => XS.dup X109.here hx rfl (hb hby at_91) rfl rfl zk) ?_
        show OGoW p e below s room_1 Z _ (OLawQ n0) (T109.setTop (mkF m 92 #[.val (.int q1), .val (.int q2), .val (.int q3), .val (.int q4), .val (.int len), .val (.int ca), .val (.int cb), .val (.int cc), .unset, .unset] [(.ref ax), (.ref ax), (.ref sx), (.ref sx)]))
        refine own_stW (fun tt zk => XS.iconst X109.here hx rfl (hb hby at_92) zk) ?_
        show OGoW p e below s room_1 Z _ (OLawQ n0) (T109.setTop (mkF m 93 #[.val (.int q1), .val (.int q2), .val (.int q3), .val (.int q4), .val (.int len), .val (.int ca), .val (.int cb), .val (.int cc), .unset, .unset] [(.int (1 : Int32)), (.ref ax), (.ref ax), (.ref sx), (.ref sx)]))
        refine own_stW (fun tt zk => XS.iload X109.here hx rfl (hb hby at_93) rfl zk) ?_
        show OGoW p e below s room_1 Z _ (OLawQ n0) (T109.setTop (mkF m 95 #[.val (.int q1), .val (.int q2), .val (.int q3), .val (.int q4), .val (.int len), .val (.int ca), .val (.int cb), .val (.int cc), .unset, .unset] [(.int cb), (.int (1 : Int32)), (.ref ax), (.ref ax), (.ref sx), (.ref sx)]))
        obtain ⟨cl110, Ar110, Sz110, Hh110⟩ := id A_ax
        obtain ⟨T110, hp110, X110, e110, Ww110, st110⟩ := stC X109 hx hZ e109 Ar110 (j := (1 : Int32)) (own_in Sz110 (by decide) (by decide)) (g := (mkF m 95 #[.val (.int q1), .val (.int q2), .val (.int q3), .val (.int q4), .val (.int len), .val (.int ca), .val (.int cb), .val (.int cc), .unset, .unset] [(.int cb), (.int (1 : Int32)), (.ref ax), (.ref ax), (.ref sx), (.ref sx)])) rfl rfl (hb hby at_95)
        have Nf110 := Fr.snoc X110 Nf109 old_ax
        have Z0 := Nat.le_trans Z0 (Keep.of_wr Ww110).1
        have hk := Nat.le_trans hk (Keep.of_wr Ww110).1
        have CH := CH.trans (CHr.wr Ww110 (own_safe_arr hZ.alike A_ax (by decide)) CH.1)
        have S_COMPACT_STRINGS := S_COMPACT_STRINGS.wr Ww110
        have S_SIOOBE_FORMATTER := S_SIOOBE_FORMATTER.wr Ww110
        have S__assertionsDisabled := S__assertionsDisabled.wr Ww110
        have S_HI_BYTE_SHIFT := S_HI_BYTE_SHIFT.wr Ww110
        have S_LO_BYTE_SHIFT := S_LO_BYTE_SHIFT.wr Ww110
        have E_sx := E_sx.wr Ww110
        have F_value_sx := F_value_sx.other Ww110 (Or.inl ne_sx_ax)
        have F_coder_sx := F_coder_sx.other Ww110 (Or.inl ne_sx_ax)
        have A_ax := OAr.set Ar110 Sz110 Hh110 Ww110
        refine own_stW st110 ?_
        show OGoW p e below s room_1 Z _ (OLawQ n0) (T110.setTop (mkF m 96 #[.val (.int q1), .val (.int q2), .val (.int q3), .val (.int q4), .val (.int len), .val (.int ca), .val (.int cb), .val (.int cc), .unset, .unset] [(.ref ax), (.ref sx), (.ref sx)]))
        have A_ax : OAr Z hp110 ax .char 2 (fun j => .int ((own_c3 ca cb cb) j)) := A_ax.cong (fun j hj => by
          have : j = 0 ∨ j = 1 := by have : j < 2 := hj; omega
          rcases this with rfl | rfl
          · exact congrArg Value.int (own_nc ca bd_ca.1 bd_ca.2)
          · exact congrArg Value.int (own_nc cb bd_cb.1 bd_cb.2))
        by_cases g_ca : (255 : Int32) < ca
        · obtain ⟨_, T111, Lc111, X111, hQ111, st111⟩ := own_callI X110 hx hZ (y := (⟨"java/lang/String", "<init>", "([C)V"⟩ : MethodName)) (W := 1) rfl hown (hw _ (List.mem_of_getElem? (i := 4) rfl)) (hw _ (List.mem_of_getElem? (i := 5) rfl)) (hw _ (List.mem_of_getElem? (i := 6) rfl)) (hw _ (List.mem_of_getElem? (i := 2) rfl)) (by decide) (su10 l Z a0 hw sx ax 2 0 (own_c3 ca cb cb) cs hp110 n0 Z0 old_sx (Ne.symm ne_sx_ax) E_sx F_coder_sx F_value_sx A_ax S_COMPACT_STRINGS S__assertionsDisabled S_HI_BYTE_SHIFT S_LO_BYTE_SHIFT (by decide) (by decide) (fun j hj => absurd hj (Nat.not_lt_zero j)) g_ca (own_bd bd_ca bd_cb bd_cb 2) hcs) (by decide) (by decide) (a := sx) (g := (mkF m 96 #[.val (.int q1), .val (.int q2), .val (.int q3), .val (.int q4), .val (.int len), .val (.int ca), .val (.int cb), .val (.int cc), .unset, .unset] [(.ref ax), (.ref sx), (.ref sx)])) rfl (by rw [hml]; rfl) (argsL := [(.ref ax)]) (rest := [(.ref sx)]) (lenOf pd_16 rfl) rfl (by show 2 * 0 + _ ≤ _; exact Nat.le_of_eq rfl) (hb hby at_96) rfl e110 (by decide) (by decide)
          obtain ⟨t1, rfl, Nq111, Kq111, fq111_t1, q111_0, q111_1, q111_2, q111_3⟩ := hQ111
          have ne_sx_t1 : sx ≠ t1 := Nat.ne_of_lt (Nat.lt_of_lt_of_le E_sx.lt fq111_t1)
          have ne_ax_t1 : ax ≠ t1 := Nat.ne_of_lt (Nat.lt_of_lt_of_le A_ax.lt fq111_t1)
          have old_t1 : n0 ≤ t1 := Nat.le_trans Z0 fq111_t1
          have hpl_Kq111 : ∀ w ∈ [sx], ∃ c : Cell, hp110[w]? = some c ∧ c.vm.isStatics = false := (allS (own_pl_exa E_sx) all0)
          have Z0 := Nat.le_trans Z0 Kq111.1
          have hk := Nat.le_trans hk Kq111.1
          have CH := CH.trans (CHr.keep Kq111 (allS (own_safe_null hZ.alike E_sx F_value_sx) all0) CH.1)
          have S_COMPACT_STRINGS := own_sta_keep S_COMPACT_STRINGS Kq111 hpl_Kq111
          have S_SIOOBE_FORMATTER := own_sta_keep S_SIOOBE_FORMATTER Kq111 hpl_Kq111
          have S__assertionsDisabled := own_sta_keep S__assertionsDisabled Kq111 hpl_Kq111
          have S_HI_BYTE_SHIFT := own_sta_keep S_HI_BYTE_SHIFT Kq111 hpl_Kq111
          have S_LO_BYTE_SHIFT := own_sta_keep S_LO_BYTE_SHIFT Kq111 hpl_Kq111
          have A_ax := A_ax.keep Kq111 (ninS (Ne.symm ne_sx_ax) nin0)
          have Nr111 := Fr.app Nf110 Nq111
          have E_sx := q111_0
          have F_coder_sx := q111_1
          have F_value_sx := q111_2
          have A_t1 := q111_3
          refine own_stW st111 ?_
          show OGoW p e below s room_1 Z _ (OLawQ n0) (T111.setTop (mkF m 99 #[.val (.int q1), .val (.int q2), .val (.int q3), .val (.int q4), .val (.int len), .val (.int ca), .val (.int cb), .val (.int cc), .unset, .unset] [(.ref sx)]))
          refine own_stW (fun tt zk => XS.astore X111.here hx rfl (hb hby at_99) rfl rfl (l' := #[.val (.int q1), .val (.int q2), .val (.int q3), .val (.int q4), .val (.int len), .val (.int ca), .val (.int cb), .val (.int cc), .val (.ref sx), .unset]) rfl zk) ?_
          show OGoW p e below s room_1 Z _ (OLawQ n0) (T111.setTop (mkF m 101 #[.val (.int q1), .val (.int q2), .val (.int q3), .val (.int q4), .val (.int len), .val (.int ca), .val (.int cb), .val (.int cc), .val (.ref sx), .unset] []))
          refine own_stW (fun tt zk => XS.iload X111.here hx rfl (hb hby at_101) rfl zk) ?_
          show OGoW p e below s room_1 Z _ (OLawQ n0) (T111.setTop (mkF m 103 #[.val (.int q1), .val (.int q2), .val (.int q3), .val (.int q4), .val (.int len), .val (.int ca), .val (.int cb), .val (.int cc), .val (.ref sx), .unset] [(.int ca)]))
          by_cases h_ca : own_okb ca = true
          · obtain ⟨T112, X112, e112, st112⟩ := own_callSP X111 hx hZ (y := (⟨"com/example/plain_keys/plainkeys/server/HttpGrammarIsFieldValuePinLaw", "ok", "(C)Z"⟩ : MethodName)) (W := 0) hown (hw _ (List.mem_of_getElem? (i := 47) rfl)) (hw _ (List.mem_of_getElem? (i := 48) rfl)) (hw _ (List.mem_of_getElem? (i := 49) rfl)) (hw _ (List.mem_of_getElem? (i := 50) rfl)) (by decide) (ro l Z a0 hw ca 1 T111.heap (own_obt h_ca)) (by decide) (by decide) (g := (mkF m 103 #[.val (.int q1), .val (.int q2), .val (.int q3), .val (.int q4), .val (.int len), .val (.int ca), .val (.int cb), .val (.int cc), .val (.ref sx), .unset] [(.int ca)])) rfl (by rw [hml]; rfl) (argsL := [(.int ca)]) (rest := []) (lenOf pd_18 rfl) rfl (by show 2 * 0 + _ ≤ _; exact Nat.le_of_eq rfl) (hb hby at_103) rfl rfl (by decide) (by decide)
            refine own_stW st112 ?_
            show OGoW p e below s room_1 Z _ (OLawQ n0) (T112.setTop (mkF m 106 #[.val (.int q1), .val (.int q2), .val (.int q3), .val (.int q4), .val (.int len), .val (.int ca), .val (.int cb), .val (.int cc), .val (.ref sx), .unset] [(.int (1 : Int32))]))
            refine own_stW (fun tt zk => XS.ifNo X112.here hx rfl (hb hby at_106) rfl ((if0 _ _).trans (feq ((by decide : ¬ (1 : Int32) = (0 : Int32)))).1) zk) ?_
            show OGoW p e below s room_1 Z _ (OLawQ n0) (T112.setTop (mkF m 109 #[.val (.int q1), .val (.int q2), .val (.int q3), .val (.int q4), .val (.int len), .val (.int ca), .val (.int cb), .val (.int cc), .val (.ref sx), .unset] []))
            refine own_stW (fun tt zk => XS.iload X112.here hx rfl (hb hby at_109) rfl zk) ?_
            show OGoW p e below s room_1 Z _ (OLawQ n0) (T112.setTop (mkF m 111 #[.val (.int q1), .val (.int q2), .val (.int q3), .val (.int q4), .val (.int len), .val (.int ca), .val (.int cb), .val (.int cc), .val (.ref sx), .unset] [(.int cb)]))
            by_cases h_cb : own_okb cb = true
            · obtain ⟨T114, X114, e114, st114⟩ := own_callSP X112 hx hZ (y := (⟨"com/example/plain_keys/plainkeys/server/HttpGrammarIsFieldValuePinLaw", "ok", "(C)Z"⟩ : MethodName)) (W := 0) hown (hw _ (List.mem_of_getElem? (i := 47) rfl)) (hw _ (List.mem_of_getElem? (i := 48) rfl)) (hw _ (List.mem_of_getElem? (i := 49) rfl)) (hw _ (List.mem_of_getElem? (i := 50) rfl)) (by decide) (ro l Z a0 hw cb 1 T111.heap (own_obt h_cb)) (by decide) (by decide) (g := (mkF m 111 #[.val (.int q1), .val (.int q2), .val (.int q3), .val (.int q4), .val (.int len), .val (.int ca), .val (.int cb), .val (.int cc), .val (.ref sx), .unset] [(.int cb)])) rfl (by rw [hml]; rfl) (argsL := [(.int cb)]) (rest := []) (lenOf pd_18 rfl) rfl (by show 2 * 0 + _ ≤ _; exact Nat.le_of_eq rfl) (hb hby at_111) rfl e112 (by decide) (by decide)
              refine own_stW st114 ?_
              show OGoW p e below s room_1 Z _ (OLawQ n0) (T114.setTop (mkF m 114 #[.val (.int q1), .val (.int q2), .val (.int q3), .val (.int q4), .val (.int len), .val (.int ca), .val (.int cb), .val (.int cc), .val (.ref sx), .unset] [(.int (1 : Int32))]))
              refine own_stW (fun tt zk => XS.ifNo X114.here hx rfl (hb hby at_114) rfl ((if0 _ _).trans (feq ((by decide : ¬ (1 : Int32) = (0 : Int32)))).1) zk) ?_
              show OGoW p e below s room_1 Z _ (OLawQ n0) (T114.setTop (mkF m 117 #[.val (.int q1), .val (.int q2), .val (.int q3), .val (.int q4), .val (.int len), .val (.int ca), .val (.int cb), .val (.int cc), .val (.ref sx), .unset] []))
              refine own_stW (fun tt zk => XS.iconst X114.here hx rfl (hb hby at_117) zk) ?_
              show OGoW p e below s room_1 Z _ (OLawQ n0) (T114.setTop (mkF m 118 #[.val (.int q1), .val (.int q2), .val (.int q3), .val (.int q4), .val (.int len), .val (.int ca), .val (.int cb), .val (.int cc), .val (.ref sx), .unset] [(.int (1 : Int32))]))
              refine own_stW (fun tt zk => XS.goto X114.here hx rfl (pc0 := 118) (pc' := 122) rfl (hb hby at_118) (by decide) (by decide) zk) ?_
              show OGoW p e below s room_1 Z _ (OLawQ n0) (T114.setTop (mkF m 122 #[.val (.int q1), .val (.int q2), .val (.int q3), .val (.int q4), .val (.int len), .val (.int ca), .val (.int cb), .val (.int cc), .val (.ref sx), .unset] [(.int (1 : Int32))]))
              refine own_stW (fun tt zk => XS.istore X114.here hx rfl (hb hby at_122) rfl (l' := #[.val (.int q1), .val (.int q2), .val (.int q3), .val (.int q4), .val (.int len), .val (.int ca), .val (.int cb), .val (.int cc), .val (.ref sx), .val (.int (1 : Int32))]) rfl zk) ?_
              show OGoW p e below s room_1 Z _ (OLawQ n0) (T114.setTop (mkF m 124 #[.val (.int q1), .val (.int q2), .val (.int q3), .val (.int q4), .val (.int len), .val (.int ca), .val (.int cb), .val (.int cc), .val (.ref sx), .val (.int (1 : Int32))] []))
              refine own_stW (fun tt zk => XS.goto X114.here hx rfl (pc0 := 124) (pc' := 185) rfl (hb hby at_124) (by decide) (by decide) zk) ?_
              show OGoW p e below s room_1 Z _ (OLawQ n0) (T114.setTop (mkF m 185 #[.val (.int q1), .val (.int q2), .val (.int q3), .val (.int q4), .val (.int len), .val (.int ca), .val (.int cb), .val (.int cc), .val (.ref sx), .val (.int (1 : Int32))] []))
              refine own_stW (fun tt zk => XS.aload X114.here hx rfl (hb hby at_185) rfl rfl zk) ?_
              show OGoW p e below s room_1 Z _ (OLawQ n0) (T114.setTop (mkF m 187 #[.val (.int q1), .val (.int q2), .val (.int q3), .val (.int q4), .val (.int len), .val (.int ca), .val (.int cb), .val (.int cc), .val (.ref sx), .val (.int (1 : Int32))] [(.ref sx)]))
              obtain ⟨T116, X116, e116, st116⟩ := own_callSP X114 hx hZ (y := (⟨"com/example/plain_keys/plainkeys/server/HttpGrammar", "isFieldValue", "(Ljava/lang/String;)Z"⟩ : MethodName)) (W := 0) hown (hw _ (List.mem_of_getElem? (i := 22) rfl)) (hw _ (List.mem_of_getElem? (i := 23) rfl)) (hw _ (List.mem_of_getElem? (i := 24) rfl)) (hw _ (List.mem_of_getElem? (i := 25) rfl)) (by decide) (riU l Z a0 hw sx t1 2 (own_c3 ca cb cb) cs fm (1 : Int32) T111.heap E_sx F_coder_sx F_value_sx A_t1 S_COMPACT_STRINGS S_SIOOBE_FORMATTER S__assertionsDisabled S_HI_BYTE_SHIFT S_LO_BYTE_SHIFT hcs cat_fm ir_fm (by decide) (own_bd bd_ca bd_cb bd_cb 2) (by simp [own_from, own_c3, own_c0, OB, hl0, hl1, hl2, h_ca, h_cb])) (by decide) (by decide) (g := (mkF m 187 #[.val (.int q1), .val (.int q2), .val (.int q3), .val (.int q4), .val (.int len), .val (.int ca), .val (.int cb), .val (.int cc), .val (.ref sx), .val (.int (1 : Int32))] [(.ref sx)])) rfl (by rw [hml]; rfl) (argsL := [(.ref sx)]) (rest := []) (lenOf pd_17 rfl) rfl (by show 2 * 0 + _ ≤ _; exact Nat.le_of_eq rfl) (hb hby at_187) rfl e114 (by decide) (by decide)
              refine own_stW st116 ?_
              show OGoW p e below s room_1 Z _ (OLawQ n0) (T116.setTop (mkF m 190 #[.val (.int q1), .val (.int q2), .val (.int q3), .val (.int q4), .val (.int len), .val (.int ca), .val (.int cb), .val (.int cc), .val (.ref sx), .val (.int (1 : Int32))] [(.int (1 : Int32))]))
              refine own_stW (fun tt zk => XS.iload X116.here hx rfl (hb hby at_190) rfl zk) ?_
              show OGoW p e below s room_1 Z _ (OLawQ n0) (T116.setTop (mkF m 192 #[.val (.int q1), .val (.int q2), .val (.int q3), .val (.int q4), .val (.int len), .val (.int ca), .val (.int cb), .val (.int cc), .val (.ref sx), .val (.int (1 : Int32))] [(.int (1 : Int32)), (.int (1 : Int32))]))
              refine own_stW (fun tt zk => XS.icmpNo X116.here hx rfl (hb hby at_192) rfl (teq (rfl)).2 zk) ?_
              show OGoW p e below s room_1 Z _ (OLawQ n0) (T116.setTop (mkF m 195 #[.val (.int q1), .val (.int q2), .val (.int q3), .val (.int q4), .val (.int len), .val (.int ca), .val (.int cb), .val (.int cc), .val (.ref sx), .val (.int (1 : Int32))] []))
              refine own_stW (fun tt zk => XS.iconst X116.here hx rfl (hb hby at_195) zk) ?_
              show OGoW p e below s room_1 Z _ (OLawQ n0) (T116.setTop (mkF m 196 #[.val (.int q1), .val (.int q2), .val (.int q3), .val (.int q4), .val (.int len), .val (.int ca), .val (.int cb), .val (.int cc), .val (.ref sx), .val (.int (1 : Int32))] [(.int (1 : Int32))]))
              refine own_stW (fun tt zk => XS.goto X116.here hx rfl (pc0 := 196) (pc' := 200) rfl (hb hby at_196) (by decide) (by decide) zk) ?_
              show OGoW p e below s room_1 Z _ (OLawQ n0) (T116.setTop (mkF m 200 #[.val (.int q1), .val (.int q2), .val (.int q3), .val (.int q4), .val (.int len), .val (.int ca), .val (.int cb), .val (.int cc), .val (.ref sx), .val (.int (1 : Int32))] [(.int (1 : Int32))]))
              exact own_retWN X116 hx hlk (t := .boolean) hret (by simp) (hb hby at_200) (by decide) (by decide) hS e116 es hk hZ hEL CH (⟨rfl, Nr111⟩)
            · obtain ⟨T115, X115, e115, st115⟩ := own_callSP X112 hx hZ (y := (⟨"com/example/plain_keys/plainkeys/server/HttpGrammarIsFieldValuePinLaw", "ok", "(C)Z"⟩ : MethodName)) (W := 0) hown (hw _ (List.mem_of_getElem? (i := 47) rfl)) (hw _ (List.mem_of_getElem? (i := 48) rfl)) (hw _ (List.mem_of_getElem? (i := 49) rfl)) (hw _ (List.mem_of_getElem? (i := 50) rfl)) (by decide) (ro l Z a0 hw cb 0 T111.heap (own_obf h_cb)) (by decide) (by decide) (g := (mkF m 111 #[.val (.int q1), .val (.int q2), .val (.int q3), .val (.int q4), .val (.int len), .val (.int ca), .val (.int cb), .val (.int cc), .val (.ref sx), .unset] [(.int cb)])) rfl (by rw [hml]; rfl) (argsL := [(.int cb)]) (rest := []) (lenOf pd_18 rfl) rfl (by show 2 * 0 + _ ≤ _; exact Nat.le_of_eq rfl) (hb hby at_111) rfl e112 (by decide) (by decide)
              refine own_stW st115 ?_
              show OGoW p e below s room_1 Z _ (OLawQ n0) (T115.setTop (mkF m 114 #[.val (.int q1), .val (.int q2), .val (.int q3), .val (.int q4), .val (.int len), .val (.int ca), .val (.int cb), .val (.int cc), .val (.ref sx), .unset] [(.int (0 : Int32))]))
              refine own_stW (fun tt zk => XS.ifYes X115.here hx rfl (pc0 := 114) (pc' := 121) rfl (hb hby at_114) rfl ((if0 _ _).trans (teq ((by decide : (0 : Int32) = (0 : Int32)))).1) (by decide) (by decide) zk) ?_
              show OGoW p e below s room_1 Z _ (OLawQ n0) (T115.setTop (mkF m 121 #[.val (.int q1), .val (.int q2), .val (.int q3), .val (.int q4), .val (.int len), .val (.int ca), .val (.int cb), .val (.int cc), .val (.ref sx), .unset] []))
              refine own_stW (fun tt zk => XS.iconst X115.here hx rfl (hb hby at_121) zk) ?_
              show OGoW p e below s room_1 Z _ (OLawQ n0) (T115.setTop (mkF m 122 #[.val (.int q1), .val (.int q2), .val (.int q3), .val (.int q4), .val (.int len), .val (.int ca), .val (.int cb), .val (.int cc), .val (.ref sx), .unset] [(.int (0 : Int32))]))
              refine own_stW (fun tt zk => XS.istore X115.here hx rfl (hb hby at_122) rfl (l' := #[.val (.int q1), .val (.int q2), .val (.int q3), .val (.int q4), .val (.int len), .val (.int ca), .val (.int cb), .val (.int cc), .val (.ref sx), .val (.int (0 : Int32))]) rfl zk) ?_
              show OGoW p e below s room_1 Z _ (OLawQ n0) (T115.setTop (mkF m 124 #[.val (.int q1), .val (.int q2), .val (.int q3), .val (.int q4), .val (.int len), .val (.int ca), .val (.int cb), .val (.int cc), .val (.ref sx), .val (.int (0 : Int32))] []))
              refine own_stW (fun tt zk => XS.goto X115.here hx rfl (pc0 := 124) (pc' := 185) rfl (hb hby at_124) (by decide) (by decide) zk) ?_
              show OGoW p e below s room_1 Z _ (OLawQ n0) (T115.setTop (mkF m 185 #[.val (.int q1), .val (.int q2), .val (.int q3), .val (.int q4), .val (.int len), .val (.int ca), .val (.int cb), .val (.int cc), .val (.ref sx), .val (.int (0 : Int32))] []))
              refine own_stW (fun tt zk => XS.aload X115.here hx rfl (hb hby at_185) rfl rfl zk) ?_
              show OGoW p e below s room_1 Z _ (OLawQ n0) (T115.setTop (mkF m 187 #[.val (.int q1), .val (.int q2), .val (.int q3), .val (.int q4), .val (.int len), .val (.int ca), .val (.int cb), .val (.int cc), .val (.ref sx), .val (.int (0 : Int32))] [(.ref sx)]))
              obtain ⟨T117, X117, e117, st117⟩ := own_callSP X115 hx hZ (y := (⟨"com/example/plain_keys/plainkeys/server/HttpGrammar", "isFieldValue", "(Ljava/lang/String;)Z"⟩ : MethodName)) (W := 0) hown (hw _ (List.mem_of_getElem? (i := 22) rfl)) (hw _ (List.mem_of_getElem? (i := 23) rfl)) (hw _ (List.mem_of_getElem? (i := 24) rfl)) (hw _ (List.mem_of_getElem? (i := 25) rfl)) (by decide) (riU l Z a0 hw sx t1 2 (own_c3 ca cb cb) cs fm (0 : Int32) T111.heap E_sx F_coder_sx F_value_sx A_t1 S_COMPACT_STRINGS S_SIOOBE_FORMATTER S__assertionsDisabled S_HI_BYTE_SHIFT S_LO_BYTE_SHIFT hcs cat_fm ir_fm (by decide) (own_bd bd_ca bd_cb bd_cb 2) (by simp [own_from, own_c3, own_c0, OB, hl0, hl1, hl2, h_ca, h_cb])) (by decide) (by decide) (g := (mkF m 187 #[.val (.int q1), .val (.int q2), .val (.int q3), .val (.int q4), .val (.int len), .val (.int ca), .val (.int cb), .val (.int cc), .val (.ref sx), .val (.int (0 : Int32))] [(.ref sx)])) rfl (by rw [hml]; rfl) (argsL := [(.ref sx)]) (rest := []) (lenOf pd_17 rfl) rfl (by show 2 * 0 + _ ≤ _; exact Nat.le_of_eq rfl) (hb hby at_187) rfl e115 (by decide) (by decide)
              refine own_stW st117 ?_
              show OGoW p e below s room_1 Z _ (OLawQ n0) (T117.setTop (mkF m 190 #[.val (.int q1), .val (.int q2), .val (.int q3), .val (.int q4), .val (.int len), .val (.int ca), .val (.int cb), .val (.int cc), .val (.ref sx), .val (.int (0 : Int32))] [(.int (0 : Int32))]))
              refine own_stW (fun tt zk => XS.iload X117.here hx rfl (hb hby at_190) rfl zk) ?_
              show OGoW p e below s room_1 Z _ (OLawQ n0) (T117.setTop (mkF m 192 #[.val (.int q1), .val (.int q2), .val (.int q3), .val (.int q4), .val (.int len), .val (.int ca), .val (.int cb), .val (.int cc), .val (.ref sx), .val (.int (0 : Int32))] [(.int (0 : Int32)), (.int (0 : Int32))]))
              refine own_stW (fun tt zk => XS.icmpNo X117.here hx rfl (hb hby at_192) rfl (teq (rfl)).2 zk) ?_
              show OGoW p e below s room_1 Z _ (OLawQ n0) (T117.setTop (mkF m 195 #[.val (.int q1), .val (.int q2), .val (.int q3), .val (.int q4), .val (.int len), .val (.int ca), .val (.int cb), .val (.int cc), .val (.ref sx), .val (.int (0 : Int32))] []))
              refine own_stW (fun tt zk => XS.iconst X117.here hx rfl (hb hby at_195) zk) ?_
              show OGoW p e below s room_1 Z _ (OLawQ n0) (T117.setTop (mkF m 196 #[.val (.int q1), .val (.int q2), .val (.int q3), .val (.int q4), .val (.int len), .val (.int ca), .val (.int cb), .val (.int cc), .val (.ref sx), .val (.int (0 : Int32))] [(.int (1 : Int32))]))
              refine own_stW (fun tt zk => XS.goto X117.here hx rfl (pc0 := 196) (pc' := 200) rfl (hb hby at_196) (by decide) (by decide) zk) ?_
              show OGoW p e below s room_1 Z _ (OLawQ n0) (T117.setTop (mkF m 200 #[.val (.int q1), .val (.int q2), .val (.int q3), .val (.int q4), .val (.int len), .val (.int ca), .val (.int cb), .val (.int cc), .val (.ref sx), .val (.int (0 : Int32))] [(.int (1 : Int32))]))
              exact own_retWN X117 hx hlk (t := .boolean) hret (by simp) (hb hby at_200) (by decide) (by decide) hS e117 es hk hZ hEL CH (⟨rfl, Nr111⟩)
          · obtain ⟨T113, X113, e113, st113⟩ := own_callSP X111 hx hZ (y := (⟨"com/example/plain_keys/plainkeys/server/HttpGrammarIsFieldValuePinLaw", "ok", "(C)Z"⟩ : MethodName)) (W := 0) hown (hw _ (List.mem_of_getElem? (i := 47) rfl)) (hw _ (List.mem_of_getElem? (i := 48) rfl)) (hw _ (List.mem_of_getElem? (i := 49) rfl)) (hw _ (List.mem_of_getElem? (i := 50) rfl)) (by decide) (ro l Z a0 hw ca 0 T111.heap (own_obf h_ca)) (by decide) (by decide) (g := (mkF m 103 #[.val (.int q1), .val (.int q2), .val (.int q3), .val (.int q4), .val (.int len), .val (.int ca), .val (.int cb), .val (.int cc), .val (.ref sx), .unset] [(.int ca)])) rfl (by rw [hml]; rfl) (argsL := [(.int ca)]) (rest := []) (lenOf pd_18 rfl) rfl (by show 2 * 0 + _ ≤ _; exact Nat.le_of_eq rfl) (hb hby at_103) rfl rfl (by decide) (by decide)
            refine own_stW st113 ?_
            show OGoW p e below s room_1 Z _ (OLawQ n0) (T113.setTop (mkF m 106 #[.val (.int q1), .val (.int q2), .val (.int q3), .val (.int q4), .val (.int len), .val (.int ca), .val (.int cb), .val (.int cc), .val (.ref sx), .unset] [(.int (0 : Int32))]))
            refine own_stW (fun tt zk => XS.ifYes X113.here hx rfl (pc0 := 106) (pc' := 121) rfl (hb hby at_106) rfl ((if0 _ _).trans (teq ((by decide : (0 : Int32) = (0 : Int32)))).1) (by decide) (by decide) zk) ?_
            show OGoW p e below s room_1 Z _ (OLawQ n0) (T113.setTop (mkF m 121 #[.val (.int q1), .val (.int q2), .val (.int q3), .val (.int q4), .val (.int len), .val (.int ca), .val (.int cb), .val (.int cc), .val (.ref sx), .unset] []))
            refine own_stW (fun tt zk => XS.iconst X113.here hx rfl (hb hby at_121) zk) ?_
            show OGoW p e below s room_1 Z _ (OLawQ n0) (T113.setTop (mkF m 122 #[.val (.int q1), .val (.int q2), .val (.int q3), .val (.int q4), .val (.int len), .val (.int ca), .val (.int cb), .val (.int cc), .val (.ref sx), .unset] [(.int (0 : Int32))]))
            refine own_stW (fun tt zk => XS.istore X113.here hx rfl (hb hby at_122) rfl (l' := #[.val (.int q1), .val (.int q2), .val (.int q3), .val (.int q4), .val (.int len), .val (.int ca), .val (.int cb), .val (.int cc), .val (.ref sx), .val (.int (0 : Int32))]) rfl zk) ?_
            show OGoW p e below s room_1 Z _ (OLawQ n0) (T113.setTop (mkF m 124 #[.val (.int q1), .val (.int q2), .val (.int q3), .val (.int q4), .val (.int len), .val (.int ca), .val (.int cb), .val (.int cc), .val (.ref sx), .val (.int (0 : Int32))] []))
            refine own_stW (fun tt zk => XS.goto X113.here hx rfl (pc0 := 124) (pc' := 185) rfl (hb hby at_124) (by decide) (by decide) zk) ?_
            show OGoW p e below s room_1 Z _ (OLawQ n0) (T113.setTop (mkF m 185 #[.val (.int q1), .val (.int q2), .val (.int q3), .val (.int q4), .val (.int len), .val (.int ca), .val (.int cb), .val (.int cc), .val (.ref sx), .val (.int (0 : Int32))] []))
            refine own_stW (fun tt zk => XS.aload X113.here hx rfl (hb hby at_185) rfl rfl zk) ?_
            show OGoW p e below s room_1 Z _ (OLawQ n0) (T113.setTop (mkF m 187 #[.val (.int q1), .val (.int q2), .val (.int q3), .val (.int q4), .val (.int len), .val (.int ca), .val (.int cb), .val (.int cc), .val (.ref sx), .val (.int (0 : Int32))] [(.ref sx)]))
            obtain ⟨T118, X118, e118, st118⟩ := own_callSP X113 hx hZ (y := (⟨"com/example/plain_keys/plainkeys/server/HttpGrammar", "isFieldValue", "(Ljava/lang/String;)Z"⟩ : MethodName)) (W := 0) hown (hw _ (List.mem_of_getElem? (i := 22) rfl)) (hw _ (List.mem_of_getElem? (i := 23) rfl)) (hw _ (List.mem_of_getElem? (i := 24) rfl)) (hw _ (List.mem_of_getElem? (i := 25) rfl)) (by decide) (riU l Z a0 hw sx t1 2 (own_c3 ca cb cb) cs fm (0 : Int32) T111.heap E_sx F_coder_sx F_value_sx A_t1 S_COMPACT_STRINGS S_SIOOBE_FORMATTER S__assertionsDisabled S_HI_BYTE_SHIFT S_LO_BYTE_SHIFT hcs cat_fm ir_fm (by decide) (own_bd bd_ca bd_cb bd_cb 2) (by simp [own_from, own_c3, own_c0, OB, hl0, hl1, hl2, h_ca])) (by decide) (by decide) (g := (mkF m 187 #[.val (.int q1), .val (.int q2), .val (.int q3), .val (.int q4), .val (.int len), .val (.int ca), .val (.int cb), .val (.int cc), .val (.ref sx), .val (.int (0 : Int32))] [(.ref sx)])) rfl (by rw [hml]; rfl) (argsL := [(.ref sx)]) (rest := []) (lenOf pd_17 rfl) rfl (by show 2 * 0 + _ ≤ _; exact Nat.le_of_eq rfl) (hb hby at_187) rfl e113 (by decide) (by decide)
            refine own_stW st118 ?_
            show OGoW p e below s room_1 Z _ (OLawQ n0) (T118.setTop (mkF m 190 #[.val (.int q1), .val (.int q2), .val (.int q3), .val (.int q4), .val (.int len), .val (.int ca), .val (.int cb), .val (.int cc), .val (.ref sx), .val (.int (0 : Int32))] [(.int (0 : Int32))]))
            refine own_stW (fun tt zk => XS.iload X118.here hx rfl (hb hby at_190) rfl zk) ?_
            show OGoW p e below s room_1 Z _ (OLawQ n0) (T118.setTop (mkF m 192 #[.val (.int q1), .val (.int q2), .val (.int q3), .val (.int q4), .val (.int len), .val (.int ca), .val (.int cb), .val (.int cc), .val (.ref sx), .val (.int (0 : Int32))] [(.int (0 : Int32)), (.int (0 : Int32))]))
            refine own_stW (fun tt zk => XS.icmpNo X118.here hx rfl (hb hby at_192) rfl (teq (rfl)).2 zk) ?_
            show OGoW p e below s room_1 Z _ (OLawQ n0) (T118.setTop (mkF m 195 #[.val (.int q1), .val (.int q2), .val (.int q3), .val (.int q4), .val (.int len), .val (.int ca), .val (.int cb), .val (.int cc), .val (.ref sx), .val (.int (0 : Int32))] []))
            refine own_stW (fun tt zk => XS.iconst X118.here hx rfl (hb hby at_195) zk) ?_
            show OGoW p e below s room_1 Z _ (OLawQ n0) (T118.setTop (mkF m 196 #[.val (.int q1), .val (.int q2), .val (.int q3), .val (.int q4), .val (.int len), .val (.int ca), .val (.int cb), .val (.int cc), .val (.ref sx), .val (.int (0 : Int32))] [(.int (1 : Int32))]))
            refine own_stW (fun tt zk => XS.goto X118.here hx rfl (pc0 := 196) (pc' := 200) rfl (hb hby at_196) (by decide) (by decide) zk) ?_
            show OGoW p e below s room_1 Z _ (OLawQ n0) (T118.setTop (mkF m 200 #[.val (.int q1), .val (.int q2), .val (.int q3), .val (.int q4), .val (.int len), .val (.int ca), .val (.int cb), .val (.int cc), .val (.ref sx), .val (.int (0 : Int32))] [(.int (1 : Int32))]))
            exact own_retWN X118 hx hlk (t := .boolean) hret (by simp) (hb hby at_200) (by decide) (by decide) hS e118 es hk hZ hEL CH (⟨rfl, Nr111⟩)
        · by_cases g_cb : (255 : Int32) < cb
          · obtain ⟨_, T119, Lc119, X119, hQ119, st119⟩ := own_callI X110 hx hZ (y := (⟨"java/lang/String", "<init>", "([C)V"⟩ : MethodName)) (W := 1) rfl hown (hw _ (List.mem_of_getElem? (i := 4) rfl)) (hw _ (List.mem_of_getElem? (i := 5) rfl)) (hw _ (List.mem_of_getElem? (i := 6) rfl)) (hw _ (List.mem_of_getElem? (i := 2) rfl)) (by decide) (su10 l Z a0 hw sx ax 2 1 (own_c3 ca cb cb) cs hp110 n0 Z0 old_sx (Ne.symm ne_sx_ax) E_sx F_coder_sx F_value_sx A_ax S_COMPACT_STRINGS S__assertionsDisabled S_HI_BYTE_SHIFT S_LO_BYTE_SHIFT (by decide) (by decide) (own_le1 g_ca) g_cb (own_bd bd_ca bd_cb bd_cb 2) hcs) (by decide) (by decide) (a := sx) (g := (mkF m 96 #[.val (.int q1), .val (.int q2), .val (.int q3), .val (.int q4), .val (.int len), .val (.int ca), .val (.int cb), .val (.int cc), .unset, .unset] [(.ref ax), (.ref sx), (.ref sx)])) rfl (by rw [hml]; rfl) (argsL := [(.ref ax)]) (rest := [(.ref sx)]) (lenOf pd_16 rfl) rfl (by show 2 * 0 + _ ≤ _; exact Nat.le_of_eq rfl) (hb hby at_96) rfl e110 (by decide) (by decide)
            obtain ⟨t1, rfl, Nq119, Kq119, fq119_t1, q119_0, q119_1, q119_2, q119_3⟩ := hQ119
            have ne_sx_t1 : sx ≠ t1 := Nat.ne_of_lt (Nat.lt_of_lt_of_le E_sx.lt fq119_t1)
            have ne_ax_t1 : ax ≠ t1 := Nat.ne_of_lt (Nat.lt_of_lt_of_le A_ax.lt fq119_t1)
            have old_t1 : n0 ≤ t1 := Nat.le_trans Z0 fq119_t1
            have hpl_Kq119 : ∀ w ∈ [sx], ∃ c : Cell, hp110[w]? = some c ∧ c.vm.isStatics = false := (allS (own_pl_exa E_sx) all0)
            have Z0 := Nat.le_trans Z0 Kq119.1
            have hk := Nat.le_trans hk Kq119.1
            have CH := CH.trans (CHr.keep Kq119 (allS (own_safe_null hZ.alike E_sx F_value_sx) all0) CH.1)
            have S_COMPACT_STRINGS := own_sta_keep S_COMPACT_STRINGS Kq119 hpl_Kq119
            have S_SIOOBE_FORMATTER := own_sta_keep S_SIOOBE_FORMATTER Kq119 hpl_Kq119
            have S__assertionsDisabled := own_sta_keep S__assertionsDisabled Kq119 hpl_Kq119
            have S_HI_BYTE_SHIFT := own_sta_keep S_HI_BYTE_SHIFT Kq119 hpl_Kq119
            have S_LO_BYTE_SHIFT := own_sta_keep S_LO_BYTE_SHIFT Kq119 hpl_Kq119
            have A_ax := A_ax.keep Kq119 (ninS (Ne.symm ne_sx_ax) nin0)
            have Nr119 := Fr.app Nf110 Nq119
            have E_sx := q119_0
            have F_coder_sx := q119_1
            have F_value_sx := q119_2
            have A_t1 := q119_3
            refine own_stW st119 ?_
            show OGoW p e below s room_1 Z _ (OLawQ n0) (T119.setTop (mkF m 99 #[.val (.int q1), .val (.int q2), .val (.int q3), .val (.int q4), .val (.int len), .val (.int ca), .val (.int cb), .val (.int cc), .unset, .unset] [(.ref sx)]))
            refine own_stW (fun tt zk => XS.astore X119.here hx rfl (hb hby at_99) rfl rfl (l' := #[.val (.int q1), .val (.int q2), .val (.int q3), .val (.int q4), .val (.int len), .val (.int ca), .val (.int cb), .val (.int cc), .val (.ref sx), .unset]) rfl zk) ?_
            show OGoW p e below s room_1 Z _ (OLawQ n0) (T119.setTop (mkF m 101 #[.val (.int q1), .val (.int q2), .val (.int q3), .val (.int q4), .val (.int len), .val (.int ca), .val (.int cb), .val (.int cc), .val (.ref sx), .unset] []))
            refine own_stW (fun tt zk => XS.iload X119.here hx rfl (hb hby at_101) rfl zk) ?_
            show OGoW p e below s room_1 Z _ (OLawQ n0) (T119.setTop (mkF m 103 #[.val (.int q1), .val (.int q2), .val (.int q3), .val (.int q4), .val (.int len), .val (.int ca), .val (.int cb), .val (.int cc), .val (.ref sx), .unset] [(.int ca)]))
            by_cases h_ca : own_okb ca = true
            · obtain ⟨T120, X120, e120, st120⟩ := own_callSP X119 hx hZ (y := (⟨"com/example/plain_keys/plainkeys/server/HttpGrammarIsFieldValuePinLaw", "ok", "(C)Z"⟩ : MethodName)) (W := 0) hown (hw _ (List.mem_of_getElem? (i := 47) rfl)) (hw _ (List.mem_of_getElem? (i := 48) rfl)) (hw _ (List.mem_of_getElem? (i := 49) rfl)) (hw _ (List.mem_of_getElem? (i := 50) rfl)) (by decide) (ro l Z a0 hw ca 1 T119.heap (own_obt h_ca)) (by decide) (by decide) (g := (mkF m 103 #[.val (.int q1), .val (.int q2), .val (.int q3), .val (.int q4), .val (.int len), .val (.int ca), .val (.int cb), .val (.int cc), .val (.ref sx), .unset] [(.int ca)])) rfl (by rw [hml]; rfl) (argsL := [(.int ca)]) (rest := []) (lenOf pd_18 rfl) rfl (by show 2 * 0 + _ ≤ _; exact Nat.le_of_eq rfl) (hb hby at_103) rfl rfl (by decide) (by decide)
              refine own_stW st120 ?_
              show OGoW p e below s room_1 Z _ (OLawQ n0) (T120.setTop (mkF m 106 #[.val (.int q1), .val (.int q2), .val (.int q3), .val (.int q4), .val (.int len), .val (.int ca), .val (.int cb), .val (.int cc), .val (.ref sx), .unset] [(.int (1 : Int32))]))
              refine own_stW (fun tt zk => XS.ifNo X120.here hx rfl (hb hby at_106) rfl ((if0 _ _).trans (feq ((by decide : ¬ (1 : Int32) = (0 : Int32)))).1) zk) ?_
              show OGoW p e below s room_1 Z _ (OLawQ n0) (T120.setTop (mkF m 109 #[.val (.int q1), .val (.int q2), .val (.int q3), .val (.int q4), .val (.int len), .val (.int ca), .val (.int cb), .val (.int cc), .val (.ref sx), .unset] []))
              refine own_stW (fun tt zk => XS.iload X120.here hx rfl (hb hby at_109) rfl zk) ?_
              show OGoW p e below s room_1 Z _ (OLawQ n0) (T120.setTop (mkF m 111 #[.val (.int q1), .val (.int q2), .val (.int q3), .val (.int q4), .val (.int len), .val (.int ca), .val (.int cb), .val (.int cc), .val (.ref sx), .unset] [(.int cb)]))
              by_cases h_cb : own_okb cb = true
              · obtain ⟨T122, X122, e122, st122⟩ := own_callSP X120 hx hZ (y := (⟨"com/example/plain_keys/plainkeys/server/HttpGrammarIsFieldValuePinLaw", "ok", "(C)Z"⟩ : MethodName)) (W := 0) hown (hw _ (List.mem_of_getElem? (i := 47) rfl)) (hw _ (List.mem_of_getElem? (i := 48) rfl)) (hw _ (List.mem_of_getElem? (i := 49) rfl)) (hw _ (List.mem_of_getElem? (i := 50) rfl)) (by decide) (ro l Z a0 hw cb 1 T119.heap (own_obt h_cb)) (by decide) (by decide) (g := (mkF m 111 #[.val (.int q1), .val (.int q2), .val (.int q3), .val (.int q4), .val (.int len), .val (.int ca), .val (.int cb), .val (.int cc), .val (.ref sx), .unset] [(.int cb)])) rfl (by rw [hml]; rfl) (argsL := [(.int cb)]) (rest := []) (lenOf pd_18 rfl) rfl (by show 2 * 0 + _ ≤ _; exact Nat.le_of_eq rfl) (hb hby at_111) rfl e120 (by decide) (by decide)
                refine own_stW st122 ?_
                show OGoW p e below s room_1 Z _ (OLawQ n0) (T122.setTop (mkF m 114 #[.val (.int q1), .val (.int q2), .val (.int q3), .val (.int q4), .val (.int len), .val (.int ca), .val (.int cb), .val (.int cc), .val (.ref sx), .unset] [(.int (1 : Int32))]))
                refine own_stW (fun tt zk => XS.ifNo X122.here hx rfl (hb hby at_114) rfl ((if0 _ _).trans (feq ((by decide : ¬ (1 : Int32) = (0 : Int32)))).1) zk) ?_
                show OGoW p e below s room_1 Z _ (OLawQ n0) (T122.setTop (mkF m 117 #[.val (.int q1), .val (.int q2), .val (.int q3), .val (.int q4), .val (.int len), .val (.int ca), .val (.int cb), .val (.int cc), .val (.ref sx), .unset] []))
                refine own_stW (fun tt zk => XS.iconst X122.here hx rfl (hb hby at_117) zk) ?_
                show OGoW p e below s room_1 Z _ (OLawQ n0) (T122.setTop (mkF m 118 #[.val (.int q1), .val (.int q2), .val (.int q3), .val (.int q4), .val (.int len), .val (.int ca), .val (.int cb), .val (.int cc), .val (.ref sx), .unset] [(.int (1 : Int32))]))
                refine own_stW (fun tt zk => XS.goto X122.here hx rfl (pc0 := 118) (pc' := 122) rfl (hb hby at_118) (by decide) (by decide) zk) ?_
                show OGoW p e below s room_1 Z _ (OLawQ n0) (T122.setTop (mkF m 122 #[.val (.int q1), .val (.int q2), .val (.int q3), .val (.int q4), .val (.int len), .val (.int ca), .val (.int cb), .val (.int cc), .val (.ref sx), .unset] [(.int (1 : Int32))]))
                refine own_stW (fun tt zk => XS.istore X122.here hx rfl (hb hby at_122) rfl (l' := #[.val (.int q1), .val (.int q2), .val (.int q3), .val (.int q4), .val (.int len), .val (.int ca), .val (.int cb), .val (.int cc), .val (.ref sx), .val (.int (1 : Int32))]) rfl zk) ?_
                show OGoW p e below s room_1 Z _ (OLawQ n0) (T122.setTop (mkF m 124 #[.val (.int q1), .val (.int q2), .val (.int q3), .val (.int q4), .val (.int len), .val (.int ca), .val (.int cb), .val (.int cc), .val (.ref sx), .val (.int (1 : Int32))] []))
                refine own_stW (fun tt zk => XS.goto X122.here hx rfl (pc0 := 124) (pc' := 185) rfl (hb hby at_124) (by decide) (by decide) zk) ?_
                show OGoW p e below s room_1 Z _ (OLawQ n0) (T122.setTop (mkF m 185 #[.val (.int q1), .val (.int q2), .val (.int q3), .val (.int q4), .val (.int len), .val (.int ca), .val (.int cb), .val (.int cc), .val (.ref sx), .val (.int (1 : Int32))] []))
                refine own_stW (fun tt zk => XS.aload X122.here hx rfl (hb hby at_185) rfl rfl zk) ?_
                show OGoW p e below s room_1 Z _ (OLawQ n0) (T122.setTop (mkF m 187 #[.val (.int q1), .val (.int q2), .val (.int q3), .val (.int q4), .val (.int len), .val (.int ca), .val (.int cb), .val (.int cc), .val (.ref sx), .val (.int (1 : Int32))] [(.ref sx)]))
                obtain ⟨T124, X124, e124, st124⟩ := own_callSP X122 hx hZ (y := (⟨"com/example/plain_keys/plainkeys/server/HttpGrammar", "isFieldValue", "(Ljava/lang/String;)Z"⟩ : MethodName)) (W := 0) hown (hw _ (List.mem_of_getElem? (i := 22) rfl)) (hw _ (List.mem_of_getElem? (i := 23) rfl)) (hw _ (List.mem_of_getElem? (i := 24) rfl)) (hw _ (List.mem_of_getElem? (i := 25) rfl)) (by decide) (riU l Z a0 hw sx t1 2 (own_c3 ca cb cb) cs fm (1 : Int32) T119.heap E_sx F_coder_sx F_value_sx A_t1 S_COMPACT_STRINGS S_SIOOBE_FORMATTER S__assertionsDisabled S_HI_BYTE_SHIFT S_LO_BYTE_SHIFT hcs cat_fm ir_fm (by decide) (own_bd bd_ca bd_cb bd_cb 2) (by simp [own_from, own_c3, own_c0, OB, hl0, hl1, hl2, h_ca, h_cb])) (by decide) (by decide) (g := (mkF m 187 #[.val (.int q1), .val (.int q2), .val (.int q3), .val (.int q4), .val (.int len), .val (.int ca), .val (.int cb), .val (.int cc), .val (.ref sx), .val (.int (1 : Int32))] [(.ref sx)])) rfl (by rw [hml]; rfl) (argsL := [(.ref sx)]) (rest := []) (lenOf pd_17 rfl) rfl (by show 2 * 0 + _ ≤ _; exact Nat.le_of_eq rfl) (hb hby at_187) rfl e122 (by decide) (by decide)
                refine own_stW st124 ?_
                show OGoW p e below s room_1 Z _ (OLawQ n0) (T124.setTop (mkF m 190 #[.val (.int q1), .val (.int q2), .val (.int q3), .val (.int q4), .val (.int len), .val (.int ca), .val (.int cb), .val (.int cc), .val (.ref sx), .val (.int (1 : Int32))] [(.int (1 : Int32))]))
                refine own_stW (fun tt zk => XS.iload X124.here hx rfl (hb hby at_190) rfl zk) ?_
                show OGoW p e below s room_1 Z _ (OLawQ n0) (T124.setTop (mkF m 192 #[.val (.int q1), .val (.int q2), .val (.int q3), .val (.int q4), .val (.int len), .val (.int ca), .val (.int cb), .val (.int cc), .val (.ref sx), .val (.int (1 : Int32))] [(.int (1 : Int32)), (.int (1 : Int32))]))
                refine own_stW (fun tt zk => XS.icmpNo X124.here hx rfl (hb hby at_192) rfl (teq (rfl)).2 zk) ?_
                show OGoW p e below s room_1 Z _ (OLawQ n0) (T124.setTop (mkF m 195 #[.val (.int q1), .val (.int q2), .val (.int q3), .val (.int q4), .val (.int len), .val (.int ca), .val (.int cb), .val (.int cc), .val (.ref sx), .val (.int (1 : Int32))] []))
                refine own_stW (fun tt zk => XS.iconst X124.here hx rfl (hb hby at_195) zk) ?_
                show OGoW p e below s room_1 Z _ (OLawQ n0) (T124.setTop (mkF m 196 #[.val (.int q1), .val (.int q2), .val (.int q3), .val (.int q4), .val (.int len), .val (.int ca), .val (.int cb), .val (.int cc), .val (.ref sx), .val (.int (1 : Int32))] [(.int (1 : Int32))]))
                refine own_stW (fun tt zk => XS.goto X124.here hx rfl (pc0 := 196) (pc' := 200) rfl (hb hby at_196) (by decide) (by decide) zk) ?_
                show OGoW p e below s room_1 Z _ (OLawQ n0) (T124.setTop (mkF m 200 #[.val (.int q1), .val (.int q2), .val (.int q3), .val (.int q4), .val (.int len), .val (.int ca), .val (.int cb), .val (.int cc), .val (.ref sx), .val (.int (1 : Int32))] [(.int (1 : Int32))]))
                exact own_retWN X124 hx hlk (t := .boolean) hret (by simp) (hb hby at_200) (by decide) (by decide) hS e124 es hk hZ hEL CH (⟨rfl, Nr119⟩)
              · obtain ⟨T123, X123, e123, st123⟩ := own_callSP X120 hx hZ (y := (⟨"com/example/plain_keys/plainkeys/server/HttpGrammarIsFieldValuePinLaw", "ok", "(C)Z"⟩ : MethodName)) (W := 0) hown (hw _ (List.mem_of_getElem? (i := 47) rfl)) (hw _ (List.mem_of_getElem? (i := 48) rfl)) (hw _ (List.mem_of_getElem? (i := 49) rfl)) (hw _ (List.mem_of_getElem? (i := 50) rfl)) (by decide) (ro l Z a0 hw cb 0 T119.heap (own_obf h_cb)) (by decide) (by decide) (g := (mkF m 111 #[.val (.int q1), .val (.int q2), .val (.int q3), .val (.int q4), .val (.int len), .val (.int ca), .val (.int cb), .val (.int cc), .val (.ref sx), .unset] [(.int cb)])) rfl (by rw [hml]; rfl) (argsL := [(.int cb)]) (rest := []) (lenOf pd_18 rfl) rfl (by show 2 * 0 + _ ≤ _; exact Nat.le_of_eq rfl) (hb hby at_111) rfl e120 (by decide) (by decide)
                refine own_stW st123 ?_
                show OGoW p e below s room_1 Z _ (OLawQ n0) (T123.setTop (mkF m 114 #[.val (.int q1), .val (.int q2), .val (.int q3), .val (.int q4), .val (.int len), .val (.int ca), .val (.int cb), .val (.int cc), .val (.ref sx), .unset] [(.int (0 : Int32))]))
                refine own_stW (fun tt zk => XS.ifYes X123.here hx rfl (pc0 := 114) (pc' := 121) rfl (hb hby at_114) rfl ((if0 _ _).trans (teq ((by decide : (0 : Int32) = (0 : Int32)))).1) (by decide) (by decide) zk) ?_
                show OGoW p e below s room_1 Z _ (OLawQ n0) (T123.setTop (mkF m 121 #[.val (.int q1), .val (.int q2), .val (.int q3), .val (.int q4), .val (.int len), .val (.int ca), .val (.int cb), .val (.int cc), .val (.ref sx), .unset] []))
                refine own_stW (fun tt zk => XS.iconst X123.here hx rfl (hb hby at_121) zk) ?_
                show OGoW p e below s room_1 Z _ (OLawQ n0) (T123.setTop (mkF m 122 #[.val (.int q1), .val (.int q2), .val (.int q3), .val (.int q4), .val (.int len), .val (.int ca), .val (.int cb), .val (.int cc), .val (.ref sx), .unset] [(.int (0 : Int32))]))
                refine own_stW (fun tt zk => XS.istore X123.here hx rfl (hb hby at_122) rfl (l' := #[.val (.int q1), .val (.int q2), .val (.int q3), .val (.int q4), .val (.int len), .val (.int ca), .val (.int cb), .val (.int cc), .val (.ref sx), .val (.int (0 : Int32))]) rfl zk) ?_
                show OGoW p e below s room_1 Z _ (OLawQ n0) (T123.setTop (mkF m 124 #[.val (.int q1), .val (.int q2), .val (.int q3), .val (.int q4), .val (.int len), .val (.int ca), .val (.int cb), .val (.int cc), .val (.ref sx), .val (.int (0 : Int32))] []))
                refine own_stW (fun tt zk => XS.goto X123.here hx rfl (pc0 := 124) (pc' := 185) rfl (hb hby at_124) (by decide) (by decide) zk) ?_
                show OGoW p e below s room_1 Z _ (OLawQ n0) (T123.setTop (mkF m 185 #[.val (.int q1), .val (.int q2), .val (.int q3), .val (.int q4), .val (.int len), .val (.int ca), .val (.int cb), .val (.int cc), .val (.ref sx), .val (.int (0 : Int32))] []))
                refine own_stW (fun tt zk => XS.aload X123.here hx rfl (hb hby at_185) rfl rfl zk) ?_
                show OGoW p e below s room_1 Z _ (OLawQ n0) (T123.setTop (mkF m 187 #[.val (.int q1), .val (.int q2), .val (.int q3), .val (.int q4), .val (.int len), .val (.int ca), .val (.int cb), .val (.int cc), .val (.ref sx), .val (.int (0 : Int32))] [(.ref sx)]))
                obtain ⟨T125, X125, e125, st125⟩ := own_callSP X123 hx hZ (y := (⟨"com/example/plain_keys/plainkeys/server/HttpGrammar", "isFieldValue", "(Ljava/lang/String;)Z"⟩ : MethodName)) (W := 0) hown (hw _ (List.mem_of_getElem? (i := 22) rfl)) (hw _ (List.mem_of_getElem? (i := 23) rfl)) (hw _ (List.mem_of_getElem? (i := 24) rfl)) (hw _ (List.mem_of_getElem? (i := 25) rfl)) (by decide) (riU l Z a0 hw sx t1 2 (own_c3 ca cb cb) cs fm (0 : Int32) T119.heap E_sx F_coder_sx F_value_sx A_t1 S_COMPACT_STRINGS S_SIOOBE_FORMATTER S__assertionsDisabled S_HI_BYTE_SHIFT S_LO_BYTE_SHIFT hcs cat_fm ir_fm (by decide) (own_bd bd_ca bd_cb bd_cb 2) (by simp [own_from, own_c3, own_c0, OB, hl0, hl1, hl2, h_ca, h_cb])) (by decide) (by decide) (g := (mkF m 187 #[.val (.int q1), .val (.int q2), .val (.int q3), .val (.int q4), .val (.int len), .val (.int ca), .val (.int cb), .val (.int cc), .val (.ref sx), .val (.int (0 : Int32))] [(.ref sx)])) rfl (by rw [hml]; rfl) (argsL := [(.ref sx)]) (rest := []) (lenOf pd_17 rfl) rfl (by show 2 * 0 + _ ≤ _; exact Nat.le_of_eq rfl) (hb hby at_187) rfl e123 (by decide) (by decide)
                refine own_stW st125 ?_
                show OGoW p e below s room_1 Z _ (OLawQ n0) (T125.setTop (mkF m 190 #[.val (.int q1), .val (.int q2), .val (.int q3), .val (.int q4), .val (.int len), .val (.int ca), .val (.int cb), .val (.int cc), .val (.ref sx), .val (.int (0 : Int32))] [(.int (0 : Int32))]))
                refine own_stW (fun tt zk => XS.iload X125.here hx rfl (hb hby at_190) rfl zk) ?_
                show OGoW p e below s room_1 Z _ (OLawQ n0) (T125.setTop (mkF m 192 #[.val (.int q1), .val (.int q2), .val (.int q3), .val (.int q4), .val (.int len), .val (.int ca), .val (.int cb), .val (.int cc), .val (.ref sx), .val (.int (0 : Int32))] [(.int (0 : Int32)), (.int (0 : Int32))]))
                refine own_stW (fun tt zk => XS.icmpNo X125.here hx rfl (hb hby at_192) rfl (teq (rfl)).2 zk) ?_
                show OGoW p e below s room_1 Z _ (OLawQ n0) (T125.setTop (mkF m 195 #[.val (.int q1), .val (.int q2), .val (.int q3), .val (.int q4), .val (.int len), .val (.int ca), .val (.int cb), .val (.int cc), .val (.ref sx), .val (.int (0 : Int32))] []))
                refine own_stW (fun tt zk => XS.iconst X125.here hx rfl (hb hby at_195) zk) ?_
                show OGoW p e below s room_1 Z _ (OLawQ n0) (T125.setTop (mkF m 196 #[.val (.int q1), .val (.int q2), .val (.int q3), .val (.int q4), .val (.int len), .val (.int ca), .val (.int cb), .val (.int cc), .val (.ref sx), .val (.int (0 : Int32))] [(.int (1 : Int32))]))
                refine own_stW (fun tt zk => XS.goto X125.here hx rfl (pc0 := 196) (pc' := 200) rfl (hb hby at_196) (by decide) (by decide) zk) ?_
                show OGoW p e below s room_1 Z _ (OLawQ n0) (T125.setTop (mkF m 200 #[.val (.int q1), .val (.int q2), .val (.int q3), .val (.int q4), .val (.int len), .val (.int ca), .val (.int cb), .val (.int cc), .val (.ref sx), .val (.int (0 : Int32))] [(.int (1 : Int32))]))
                exact own_retWN X125 hx hlk (t := .boolean) hret (by simp) (hb hby at_200) (by decide) (by decide) hS e125 es hk hZ hEL CH (⟨rfl, Nr119⟩)
            · obtain ⟨T121, X121, e121, st121⟩ := own_callSP X119 hx hZ (y := (⟨"com/example/plain_keys/plainkeys/server/HttpGrammarIsFieldValuePinLaw", "ok", "(C)Z"⟩ : MethodName)) (W := 0) hown (hw _ (List.mem_of_getElem? (i := 47) rfl)) (hw _ (List.mem_of_getElem? (i := 48) rfl)) (hw _ (List.mem_of_getElem? (i := 49) rfl)) (hw _ (List.mem_of_getElem? (i := 50) rfl)) (by decide) (ro l Z a0 hw ca 0 T119.heap (own_obf h_ca)) (by decide) (by decide) (g := (mkF m 103 #[.val (.int q1), .val (.int q2), .val (.int q3), .val (.int q4), .val (.int len), .val (.int ca), .val (.int cb), .val (.int cc), .val (.ref sx), .unset] [(.int ca)])) rfl (by rw [hml]; rfl) (argsL := [(.int ca)]) (rest := []) (lenOf pd_18 rfl) rfl (by show 2 * 0 + _ ≤ _; exact Nat.le_of_eq rfl) (hb hby at_103) rfl rfl (by decide) (by decide)
              refine own_stW st121 ?_
              show OGoW p e below s room_1 Z _ (OLawQ n0) (T121.setTop (mkF m 106 #[.val (.int q1), .val (.int q2), .val (.int q3), .val (.int q4), .val (.int len), .val (.int ca), .val (.int cb), .val (.int cc), .val (.ref sx), .unset] [(.int (0 : Int32))]))
              refine own_stW (fun tt zk => XS.ifYes X121.here hx rfl (pc0 := 106) (pc' := 121) rfl (hb hby at_106) rfl ((if0 _ _).trans (teq ((by decide : (0 : Int32) = (0 : Int32)))).1) (by decide) (by decide) zk) ?_
              show OGoW p e below s room_1 Z _ (OLawQ n0) (T121.setTop (mkF m 121 #[.val (.int q1), .val (.int q2), .val (.int q3), .val (.int q4), .val (.int len), .val (.int ca), .val (.int cb), .val (.int cc), .val (.ref sx), .unset] []))
              refine own_stW (fun tt zk => XS.iconst X121.here hx rfl (hb hby at_121) zk) ?_
              show OGoW p e below s room_1 Z _ (OLawQ n0) (T121.setTop (mkF m 122 #[.val (.int q1), .val (.int q2), .val (.int q3), .val (.int q4), .val (.int len), .val (.int ca), .val (.int cb), .val (.int cc), .val (.ref sx), .unset] [(.int (0 : Int32))]))
              refine own_stW (fun tt zk => XS.istore X121.here hx rfl (hb hby at_122) rfl (l' := #[.val (.int q1), .val (.int q2), .val (.int q3), .val (.int q4), .val (.int len), .val (.int ca), .val (.int cb), .val (.int cc), .val (.ref sx), .val (.int (0 : Int32))]) rfl zk) ?_
              show OGoW p e below s room_1 Z _ (OLawQ n0) (T121.setTop (mkF m 124 #[.val (.int q1), .val (.int q2), .val (.int q3), .val (.int q4), .val (.int len), .val (.int ca), .val (.int cb), .val (.int cc), .val (.ref sx), .val (.int (0 : Int32))] []))
              refine own_stW (fun tt zk => XS.goto X121.here hx rfl (pc0 := 124) (pc' := 185) rfl (hb hby at_124) (by decide) (by decide) zk) ?_
              show OGoW p e below s room_1 Z _ (OLawQ n0) (T121.setTop (mkF m 185 #[.val (.int q1), .val (.int q2), .val (.int q3), .val (.int q4), .val (.int len), .val (.int ca), .val (.int cb), .val (.int cc), .val (.ref sx), .val (.int (0 : Int32))] []))
              refine own_stW (fun tt zk => XS.aload X121.here hx rfl (hb hby at_185) rfl rfl zk) ?_
              show OGoW p e below s room_1 Z _ (OLawQ n0) (T121.setTop (mkF m 187 #[.val (.int q1), .val (.int q2), .val (.int q3), .val (.int q4), .val (.int len), .val (.int ca), .val (.int cb), .val (.int cc), .val (.ref sx), .val (.int (0 : Int32))] [(.ref sx)]))
              obtain ⟨T126, X126, e126, st126⟩ := own_callSP X121 hx hZ (y := (⟨"com/example/plain_keys/plainkeys/server/HttpGrammar", "isFieldValue", "(Ljava/lang/String;)Z"⟩ : MethodName)) (W := 0) hown (hw _ (List.mem_of_getElem? (i := 22) rfl)) (hw _ (List.mem_of_getElem? (i := 23) rfl)) (hw _ (List.mem_of_getElem? (i := 24) rfl)) (hw _ (List.mem_of_getElem? (i := 25) rfl)) (by decide) (riU l Z a0 hw sx t1 2 (own_c3 ca cb cb) cs fm (0 : Int32) T119.heap E_sx F_coder_sx F_value_sx A_t1 S_COMPACT_STRINGS S_SIOOBE_FORMATTER S__assertionsDisabled S_HI_BYTE_SHIFT S_LO_BYTE_SHIFT hcs cat_fm ir_fm (by decide) (own_bd bd_ca bd_cb bd_cb 2) (by simp [own_from, own_c3, own_c0, OB, hl0, hl1, hl2, h_ca])) (by decide) (by decide) (g := (mkF m 187 #[.val (.int q1), .val (.int q2), .val (.int q3), .val (.int q4), .val (.int len), .val (.int ca), .val (.int cb), .val (.int cc), .val (.ref sx), .val (.int (0 : Int32))] [(.ref sx)])) rfl (by rw [hml]; rfl) (argsL := [(.ref sx)]) (rest := []) (lenOf pd_17 rfl) rfl (by show 2 * 0 + _ ≤ _; exact Nat.le_of_eq rfl) (hb hby at_187) rfl e121 (by decide) (by decide)
              refine own_stW st126 ?_
              show OGoW p e below s room_1 Z _ (OLawQ n0) (T126.setTop (mkF m 190 #[.val (.int q1), .val (.int q2), .val (.int q3), .val (.int q4), .val (.int len), .val (.int ca), .val (.int cb), .val (.int cc), .val (.ref sx), .val (.int (0 : Int32))] [(.int (0 : Int32))]))
              refine own_stW (fun tt zk => XS.iload X126.here hx rfl (hb hby at_190) rfl zk) ?_
              show OGoW p e below s room_1 Z _ (OLawQ n0) (T126.setTop (mkF m 192 #[.val (.int q1), .val (.int q2), .val (.int q3), .val (.int q4), .val (.int len), .val (.int ca), .val (.int cb), .val (.int cc), .val (.ref sx), .val (.int (0 : Int32))] [(.int (0 : Int32)), (.int (0 : Int32))]))
              refine own_stW (fun tt zk => XS.icmpNo X126.here hx rfl (hb hby at_192) rfl (teq (rfl)).2 zk) ?_
              show OGoW p e below s room_1 Z _ (OLawQ n0) (T126.setTop (mkF m 195 #[.val (.int q1), .val (.int q2), .val (.int q3), .val (.int q4), .val (.int len), .val (.int ca), .val (.int cb), .val (.int cc), .val (.ref sx), .val (.int (0 : Int32))] []))
              refine own_stW (fun tt zk => XS.iconst X126.here hx rfl (hb hby at_195) zk) ?_
              show OGoW p e below s room_1 Z _ (OLawQ n0) (T126.setTop (mkF m 196 #[.val (.int q1), .val (.int q2), .val (.int q3), .val (.int q4), .val (.int len), .val (.int ca), .val (.int cb), .val (.int cc), .val (.ref sx), .val (.int (0 : Int32))] [(.int (1 : Int32))]))
              refine own_stW (fun tt zk => XS.goto X126.here hx rfl (pc0 := 196) (pc' := 200) rfl (hb hby at_196) (by decide) (by decide) zk) ?_
              show OGoW p e below s room_1 Z _ (OLawQ n0) (T126.setTop (mkF m 200 #[.val (.int q1), .val (.int q2), .val (.int q3), .val (.int q4), .val (.int len), .val (.int ca), .val (.int cb), .val (.int cc), .val (.ref sx), .val (.int (0 : Int32))] [(.int (1 : Int32))]))
              exact own_retWN X126 hx hlk (t := .boolean) hret (by simp) (hb hby at_200) (by decide) (by decide) hS e126 es hk hZ hEL CH (⟨rfl, Nr119⟩)
          · obtain ⟨_, T127, Lc127, X127, hQ127, st127⟩ := own_callI X110 hx hZ (y := (⟨"java/lang/String", "<init>", "([C)V"⟩ : MethodName)) (W := 1) rfl hown (hw _ (List.mem_of_getElem? (i := 4) rfl)) (hw _ (List.mem_of_getElem? (i := 5) rfl)) (hw _ (List.mem_of_getElem? (i := 6) rfl)) (hw _ (List.mem_of_getElem? (i := 2) rfl)) (by decide) (sc5 l Z a0 hw sx ax 2 (own_c3 ca cb cb) cs hp110 n0 Z0 old_sx (Ne.symm ne_sx_ax) E_sx F_coder_sx F_value_sx A_ax S_COMPACT_STRINGS (by decide) (by decide) (own_le2 g_ca g_cb) hcs) (by decide) (by decide) (a := sx) (g := (mkF m 96 #[.val (.int q1), .val (.int q2), .val (.int q3), .val (.int q4), .val (.int len), .val (.int ca), .val (.int cb), .val (.int cc), .unset, .unset] [(.ref ax), (.ref sx), (.ref sx)])) rfl (by rw [hml]; rfl) (argsL := [(.ref ax)]) (rest := [(.ref sx)]) (lenOf pd_16 rfl) rfl (by show 2 * 0 + _ ≤ _; exact Nat.le_of_eq rfl) (hb hby at_96) rfl e110 (by decide) (by decide)
            obtain ⟨t1, rfl, Nq127, Kq127, fq127_t1, q127_0, q127_1, q127_2, q127_3⟩ := hQ127
            have ne_sx_t1 : sx ≠ t1 := Nat.ne_of_lt (Nat.lt_of_lt_of_le E_sx.lt fq127_t1)
            have ne_ax_t1 : ax ≠ t1 := Nat.ne_of_lt (Nat.lt_of_lt_of_le A_ax.lt fq127_t1)
            have old_t1 : n0 ≤ t1 := Nat.le_trans Z0 fq127_t1
            have hpl_Kq127 : ∀ w ∈ [sx], ∃ c : Cell, hp110[w]? = some c ∧ c.vm.isStatics = false := (allS (own_pl_exa E_sx) all0)
            have Z0 := Nat.le_trans Z0 Kq127.1
            have hk := Nat.le_trans hk Kq127.1
            have CH := CH.trans (CHr.keep Kq127 (allS (own_safe_null hZ.alike E_sx F_value_sx) all0) CH.1)
            have S_COMPACT_STRINGS := own_sta_keep S_COMPACT_STRINGS Kq127 hpl_Kq127
            have S_SIOOBE_FORMATTER := own_sta_keep S_SIOOBE_FORMATTER Kq127 hpl_Kq127
            have S__assertionsDisabled := own_sta_keep S__assertionsDisabled Kq127 hpl_Kq127
            have S_HI_BYTE_SHIFT := own_sta_keep S_HI_BYTE_SHIFT Kq127 hpl_Kq127
            have S_LO_BYTE_SHIFT := own_sta_keep S_LO_BYTE_SHIFT Kq127 hpl_Kq127
            have A_ax := A_ax.keep Kq127 (ninS (Ne.symm ne_sx_ax) nin0)
            have Nr127 := Fr.app Nf110 Nq127
            have E_sx := q127_0
            have F_coder_sx := q127_1
            have F_value_sx := q127_2
            have A_t1 := q127_3
            refine own_stW st127 ?_
            show OGoW p e below s room_1 Z _ (OLawQ n0) (T127.setTop (mkF m 99 #[.val (.int q1), .val (.int q2), .val (.int q3), .val (.int q4), .val (.int len), .val (.int ca), .val (.int cb), .val (.int cc), .unset, .unset] [(.ref sx)]))
            refine own_stW (fun tt zk => XS.astore X127.here hx rfl (hb hby at_99) rfl rfl (l' := #[.val (.int q1), .val (.int q2), .val (.int q3), .val (.int q4), .val (.int len), .val (.int ca), .val (.int cb), .val (.int cc), .val (.ref sx), .unset]) rfl zk) ?_
            show OGoW p e below s room_1 Z _ (OLawQ n0) (T127.setTop (mkF m 101 #[.val (.int q1), .val (.int q2), .val (.int q3), .val (.int q4), .val (.int len), .val (.int ca), .val (.int cb), .val (.int cc), .val (.ref sx), .unset] []))
            refine own_stW (fun tt zk => XS.iload X127.here hx rfl (hb hby at_101) rfl zk) ?_
            show OGoW p e below s room_1 Z _ (OLawQ n0) (T127.setTop (mkF m 103 #[.val (.int q1), .val (.int q2), .val (.int q3), .val (.int q4), .val (.int len), .val (.int ca), .val (.int cb), .val (.int cc), .val (.ref sx), .unset] [(.int ca)]))
            by_cases h_ca : own_okb ca = true
            · obtain ⟨T128, X128, e128, st128⟩ := own_callSP X127 hx hZ (y := (⟨"com/example/plain_keys/plainkeys/server/HttpGrammarIsFieldValuePinLaw", "ok", "(C)Z"⟩ : MethodName)) (W := 0) hown (hw _ (List.mem_of_getElem? (i := 47) rfl)) (hw _ (List.mem_of_getElem? (i := 48) rfl)) (hw _ (List.mem_of_getElem? (i := 49) rfl)) (hw _ (List.mem_of_getElem? (i := 50) rfl)) (by decide) (ro l Z a0 hw ca 1 T127.heap (own_obt h_ca)) (by decide) (by decide) (g := (mkF m 103 #[.val (.int q1), .val (.int q2), .val (.int q3), .val (.int q4), .val (.int len), .val (.int ca), .val (.int cb), .val (.int cc), .val (.ref sx), .unset] [(.int ca)])) rfl (by rw [hml]; rfl) (argsL := [(.int ca)]) (rest := []) (lenOf pd_18 rfl) rfl (by show 2 * 0 + _ ≤ _; exact Nat.le_of_eq rfl) (hb hby at_103) rfl rfl (by decide) (by decide)
              refine own_stW st128 ?_
              show OGoW p e below s room_1 Z _ (OLawQ n0) (T128.setTop (mkF m 106 #[.val (.int q1), .val (.int q2), .val (.int q3), .val (.int q4), .val (.int len), .val (.int ca), .val (.int cb), .val (.int cc), .val (.ref sx), .unset] [(.int (1 : Int32))]))
              refine own_stW (fun tt zk => XS.ifNo X128.here hx rfl (hb hby at_106) rfl ((if0 _ _).trans (feq ((by decide : ¬ (1 : Int32) = (0 : Int32)))).1) zk) ?_
              show OGoW p e below s room_1 Z _ (OLawQ n0) (T128.setTop (mkF m 109 #[.val (.int q1), .val (.int q2), .val (.int q3), .val (.int q4), .val (.int len), .val (.int ca), .val (.int cb), .val (.int cc), .val (.ref sx), .unset] []))
              refine own_stW (fun tt zk => XS.iload X128.here hx rfl (hb hby at_109) rfl zk) ?_
              show OGoW p e below s room_1 Z _ (OLawQ n0) (T128.setTop (mkF m 111 #[.val (.int q1), .val (.int q2), .val (.int q3), .val (.int q4), .val (.int len), .val (.int ca), .val (.int cb), .val (.int cc), .val (.ref sx), .unset] [(.int cb)]))
              by_cases h_cb : own_okb cb = true
              · obtain ⟨T130, X130, e130, st130⟩ := own_callSP X128 hx hZ (y := (⟨"com/example/plain_keys/plainkeys/server/HttpGrammarIsFieldValuePinLaw", "ok", "(C)Z"⟩ : MethodName)) (W := 0) hown (hw _ (List.mem_of_getElem? (i := 47) rfl)) (hw _ (List.mem_of_getElem? (i := 48) rfl)) (hw _ (List.mem_of_getElem? (i := 49) rfl)) (hw _ (List.mem_of_getElem? (i := 50) rfl)) (by decide) (ro l Z a0 hw cb 1 T127.heap (own_obt h_cb)) (by decide) (by decide) (g := (mkF m 111 #[.val (.int q1), .val (.int q2), .val (.int q3), .val (.int q4), .val (.int len), .val (.int ca), .val (.int cb), .val (.int cc), .val (.ref sx), .unset] [(.int cb)])) rfl (by rw [hml]; rfl) (argsL := [(.int cb)]) (rest := []) (lenOf pd_18 rfl) rfl (by show 2 * 0 + _ ≤ _; exact Nat.le_of_eq rfl) (hb hby at_111) rfl e128 (by decide) (by decide)
                refine own_stW st130 ?_
                show OGoW p e below s room_1 Z _ (OLawQ n0) (T130.setTop (mkF m 114 #[.val (.int q1), .val (.int q2), .val (.int q3), .val (.int q4), .val (.int len), .val (.int ca), .val (.int cb), .val (.int cc), .val (.ref sx), .unset] [(.int (1 : Int32))]))
                refine own_stW (fun tt zk => XS.ifNo X130.here hx rfl (hb hby at_114) rfl ((if0 _ _).trans (feq ((by decide : ¬ (1 : Int32) = (0 : Int32)))).1) zk) ?_
                show OGoW p e below s room_1 Z _ (OLawQ n0) (T130.setTop (mkF m 117 #[.val (.int q1), .val (.int q2), .val (.int q3), .val (.int q4), .val (.int len), .val (.int ca), .val (.int cb), .val (.int cc), .val (.ref sx), .unset] []))
                refine own_stW (fun tt zk => XS.iconst X130.here hx rfl (hb hby at_117) zk) ?_
                show OGoW p e below s room_1 Z _ (OLawQ n0) (T130.setTop (mkF m 118 #[.val (.int q1), .val (.int q2), .val (.int q3), .val (.int q4), .val (.int len), .val (.int ca), .val (.int cb), .val (.int cc), .val (.ref sx), .unset] [(.int (1 : Int32))]))
                refine own_stW (fun tt zk => XS.goto X130.here hx rfl (pc0 := 118) (pc' := 122) rfl (hb hby at_118) (by decide) (by decide) zk) ?_
                show OGoW p e below s room_1 Z _ (OLawQ n0) (T130.setTop (mkF m 122 #[.val (.int q1), .val (.int q2), .val (.int q3), .val (.int q4), .val (.int len), .val (.int ca), .val (.int cb), .val (.int cc), .val (.ref sx), .unset] [(.int (1 : Int32))]))
                refine own_stW (fun tt zk => XS.istore X130.here hx rfl (hb hby at_122) rfl (l' := #[.val (.int q1), .val (.int q2), .val (.int q3), .val (.int q4), .val (.int len), .val (.int ca), .val (.int cb), .val (.int cc), .val (.ref sx), .val (.int (1 : Int32))]) rfl zk) ?_
                show OGoW p e below s room_1 Z _ (OLawQ n0) (T130.setTop (mkF m 124 #[.val (.int q1), .val (.int q2), .val (.int q3), .val (.int q4), .val (.int len), .val (.int ca), .val (.int cb), .val (.int cc), .val (.ref sx), .val (.int (1 : Int32))] []))
                refine own_stW (fun tt zk => XS.goto X130.here hx rfl (pc0 := 124) (pc' := 185) rfl (hb hby at_124) (by decide) (by decide) zk) ?_
                show OGoW p e below s room_1 Z _ (OLawQ n0) (T130.setTop (mkF m 185 #[.val (.int q1), .val (.int q2), .val (.int q3), .val (.int q4), .val (.int len), .val (.int ca), .val (.int cb), .val (.int cc), .val (.ref sx), .val (.int (1 : Int32))] []))
                refine own_stW (fun tt zk => XS.aload X130.here hx rfl (hb hby at_185) rfl rfl zk) ?_
                show OGoW p e below s room_1 Z _ (OLawQ n0) (T130.setTop (mkF m 187 #[.val (.int q1), .val (.int q2), .val (.int q3), .val (.int q4), .val (.int len), .val (.int ca), .val (.int cb), .val (.int cc), .val (.ref sx), .val (.int (1 : Int32))] [(.ref sx)]))
                obtain ⟨T132, X132, e132, st132⟩ := own_callSP X130 hx hZ (y := (⟨"com/example/plain_keys/plainkeys/server/HttpGrammar", "isFieldValue", "(Ljava/lang/String;)Z"⟩ : MethodName)) (W := 0) hown (hw _ (List.mem_of_getElem? (i := 22) rfl)) (hw _ (List.mem_of_getElem? (i := 23) rfl)) (hw _ (List.mem_of_getElem? (i := 24) rfl)) (hw _ (List.mem_of_getElem? (i := 25) rfl)) (by decide) (riL l Z a0 hw sx t1 2 (own_c3 ca cb cb) cs fm (1 : Int32) T127.heap E_sx F_coder_sx F_value_sx A_t1 S_COMPACT_STRINGS S_SIOOBE_FORMATTER hcs cat_fm ir_fm (by decide) (own_bd bd_ca bd_cb bd_cb 2) (own_le2 g_ca g_cb) (by simp [own_from, own_c3, own_c0, OB, hl0, hl1, hl2, h_ca, h_cb])) (by decide) (by decide) (g := (mkF m 187 #[.val (.int q1), .val (.int q2), .val (.int q3), .val (.int q4), .val (.int len), .val (.int ca), .val (.int cb), .val (.int cc), .val (.ref sx), .val (.int (1 : Int32))] [(.ref sx)])) rfl (by rw [hml]; rfl) (argsL := [(.ref sx)]) (rest := []) (lenOf pd_17 rfl) rfl (by show 2 * 0 + _ ≤ _; exact Nat.le_of_eq rfl) (hb hby at_187) rfl e130 (by decide) (by decide)
                refine own_stW st132 ?_
                show OGoW p e below s room_1 Z _ (OLawQ n0) (T132.setTop (mkF m 190 #[.val (.int q1), .val (.int q2), .val (.int q3), .val (.int q4), .val (.int len), .val (.int ca), .val (.int cb), .val (.int cc), .val (.ref sx), .val (.int (1 : Int32))] [(.int (1 : Int32))]))
                refine own_stW (fun tt zk => XS.iload X132.here hx rfl (hb hby at_190) rfl zk) ?_
                show OGoW p e below s room_1 Z _ (OLawQ n0) (T132.setTop (mkF m 192 #[.val (.int q1), .val (.int q2), .val (.int q3), .val (.int q4), .val (.int len), .val (.int ca), .val (.int cb), .val (.int cc), .val (.ref sx), .val (.int (1 : Int32))] [(.int (1 : Int32)), (.int (1 : Int32))]))
                refine own_stW (fun tt zk => XS.icmpNo X132.here hx rfl (hb hby at_192) rfl (teq (rfl)).2 zk) ?_
                show OGoW p e below s room_1 Z _ (OLawQ n0) (T132.setTop (mkF m 195 #[.val (.int q1), .val (.int q2), .val (.int q3), .val (.int q4), .val (.int len), .val (.int ca), .val (.int cb), .val (.int cc), .val (.ref sx), .val (.int (1 : Int32))] []))
                refine own_stW (fun tt zk => XS.iconst X132.here hx rfl (hb hby at_195) zk) ?_
                show OGoW p e below s room_1 Z _ (OLawQ n0) (T132.setTop (mkF m 196 #[.val (.int q1), .val (.int q2), .val (.int q3), .val (.int q4), .val (.int len), .val (.int ca), .val (.int cb), .val (.int cc), .val (.ref sx), .val (.int (1 : Int32))] [(.int (1 : Int32))]))
                refine own_stW (fun tt zk => XS.goto X132.here hx rfl (pc0 := 196) (pc' := 200) rfl (hb hby at_196) (by decide) (by decide) zk) ?_
                show OGoW p e below s room_1 Z _ (OLawQ n0) (T132.setTop (mkF m 200 #[.val (.int q1), .val (.int q2), .val (.int q3), .val (.int q4), .val (.int len), .val (.int ca), .val (.int cb), .val (.int cc), .val (.ref sx), .val (.int (1 : Int32))] [(.int (1 : Int32))]))
                exact own_retWN X132 hx hlk (t := .boolean) hret (by simp) (hb hby at_200) (by decide) (by decide) hS e132 es hk hZ hEL CH (⟨rfl, Nr127⟩)
              · obtain ⟨T131, X131, e131, st131⟩ := own_callSP X128 hx hZ (y := (⟨"com/example/plain_keys/plainkeys/server/HttpGrammarIsFieldValuePinLaw", "ok", "(C)Z"⟩ : MethodName)) (W := 0) hown (hw _ (List.mem_of_getElem? (i := 47) rfl)) (hw _ (List.mem_of_getElem? (i := 48) rfl)) (hw _ (List.mem_of_getElem? (i := 49) rfl)) (hw _ (List.mem_of_getElem? (i := 50) rfl)) (by decide) (ro l Z a0 hw cb 0 T127.heap (own_obf h_cb)) (by decide) (by decide) (g := (mkF m 111 #[.val (.int q1), .val (.int q2), .val (.int q3), .val (.int q4), .val (.int len), .val (.int ca), .val (.int cb), .val (.int cc), .val (.ref sx), .unset] [(.int cb)])) rfl (by rw [hml]; rfl) (argsL := [(.int cb)]) (rest := []) (lenOf pd_18 rfl) rfl (by show 2 * 0 + _ ≤ _; exact Nat.le_of_eq rfl) (hb hby at_111) rfl e128 (by decide) (by decide)
                refine own_stW st131 ?_
                show OGoW p e below s room_1 Z _ (OLawQ n0) (T131.setTop (mkF m 114 #[.val (.int q1), .val (.int q2), .val (.int q3), .val (.int q4), .val (.int len), .val (.int ca), .val (.int cb), .val (.int cc), .val (.ref sx), .unset] [(.int (0 : Int32))]))
                refine own_stW (fun tt zk => XS.ifYes X131.here hx rfl (pc0 := 114) (pc' := 121) rfl (hb hby at_114) rfl ((if0 _ _).trans (teq ((by decide : (0 : Int32) = (0 : Int32)))).1) (by decide) (by decide) zk) ?_
                show OGoW p e below s room_1 Z _ (OLawQ n0) (T131.setTop (mkF m 121 #[.val (.int q1), .val (.int q2), .val (.int q3), .val (.int q4), .val (.int len), .val (.int ca), .val (.int cb), .val (.int cc), .val (.ref sx), .unset] []))
                refine own_stW (fun tt zk => XS.iconst X131.here hx rfl (hb hby at_121) zk) ?_
                show OGoW p e below s room_1 Z _ (OLawQ n0) (T131.setTop (mkF m 122 #[.val (.int q1), .val (.int q2), .val (.int q3), .val (.int q4), .val (.int len), .val (.int ca), .val (.int cb), .val (.int cc), .val (.ref sx), .unset] [(.int (0 : Int32))]))
                refine own_stW (fun tt zk => XS.istore X131.here hx rfl (hb hby at_122) rfl (l' := #[.val (.int q1), .val (.int q2), .val (.int q3), .val (.int q4), .val (.int len), .val (.int ca), .val (.int cb), .val (.int cc), .val (.ref sx), .val (.int (0 : Int32))]) rfl zk) ?_
                show OGoW p e below s room_1 Z _ (OLawQ n0) (T131.setTop (mkF m 124 #[.val (.int q1), .val (.int q2), .val (.int q3), .val (.int q4), .val (.int len), .val (.int ca), .val (.int cb), .val (.int cc), .val (.ref sx), .val (.int (0 : Int32))] []))
                refine own_stW (fun tt zk => XS.goto X131.here hx rfl (pc0 := 124) (pc' := 185) rfl (hb hby at_124) (by decide) (by decide) zk) ?_
                show OGoW p e below s room_1 Z _ (OLawQ n0) (T131.setTop (mkF m 185 #[.val (.int q1), .val (.int q2), .val (.int q3), .val (.int q4), .val (.int len), .val (.int ca), .val (.int cb), .val (.int cc), .val (.ref sx), .val (.int (0 : Int32))] []))
                refine own_stW (fun tt zk => XS.aload X131.here hx rfl (hb hby at_185) rfl rfl zk) ?_
                show OGoW p e below s room_1 Z _ (OLawQ n0) (T131.setTop (mkF m 187 #[.val (.int q1), .val (.int q2), .val (.int q3), .val (.int q4), .val (.int len), .val (.int ca), .val (.int cb), .val (.int cc), .val (.ref sx), .val (.int (0 : Int32))] [(.ref sx)]))
                obtain ⟨T133, X133, e133, st133⟩ := own_callSP X131 hx hZ (y := (⟨"com/example/plain_keys/plainkeys/server/HttpGrammar", "isFieldValue", "(Ljava/lang/String;)Z"⟩ : MethodName)) (W := 0) hown (hw _ (List.mem_of_getElem? (i := 22) rfl)) (hw _ (List.mem_of_getElem? (i := 23) rfl)) (hw _ (List.mem_of_getElem? (i := 24) rfl)) (hw _ (List.mem_of_getElem? (i := 25) rfl)) (by decide) (riL l Z a0 hw sx t1 2 (own_c3 ca cb cb) cs fm (0 : Int32) T127.heap E_sx F_coder_sx F_value_sx A_t1 S_COMPACT_STRINGS S_SIOOBE_FORMATTER hcs cat_fm ir_fm (by decide) (own_bd bd_ca bd_cb bd_cb 2) (own_le2 g_ca g_cb) (by simp [own_from, own_c3, own_c0, OB, hl0, hl1, hl2, h_ca, h_cb])) (by decide) (by decide) (g := (mkF m 187 #[.val (.int q1), .val (.int q2), .val (.int q3), .val (.int q4), .val (.int len), .val (.int ca), .val (.int cb), .val (.int cc), .val (.ref sx), .val (.int (0 : Int32))] [(.ref sx)])) rfl (by rw [hml]; rfl) (argsL := [(.ref sx)]) (rest := []) (lenOf pd_17 rfl) rfl (by show 2 * 0 + _ ≤ _; exact Nat.le_of_eq rfl) (hb hby at_187) rfl e131 (by decide) (by decide)
                refine own_stW st133 ?_
                show OGoW p e below s room_1 Z _ (OLawQ n0) (T133.setTop (mkF m 190 #[.val (.int q1), .val (.int q2), .val (.int q3), .val (.int q4), .val (.int len), .val (.int ca), .val (.int cb), .val (.int cc), .val (.ref sx), .val (.int (0 : Int32))] [(.int (0 : Int32))]))
                refine own_stW (fun tt zk => XS.iload X133.here hx rfl (hb hby at_190) rfl zk) ?_
                show OGoW p e below s room_1 Z _ (OLawQ n0) (T133.setTop (mkF m 192 #[.val (.int q1), .val (.int q2), .val (.int q3), .val (.int q4), .val (.int len), .val (.int ca), .val (.int cb), .val (.int cc), .val (.ref sx), .val (.int (0 : Int32))] [(.int (0 : Int32)), (.int (0 : Int32))]))
                refine own_stW (fun tt zk => XS.icmpNo X133.here hx rfl (hb hby at_192) rfl (teq (rfl)).2 zk) ?_
                show OGoW p e below s room_1 Z _ (OLawQ n0) (T133.setTop (mkF m 195 #[.val (.int q1), .val (.int q2), .val (.int q3), .val (.int q4), .val (.int len), .val (.int ca), .val (.int cb), .val (.int cc), .val (.ref sx), .val (.int (0 : Int32))] []))
                refine own_stW (fun tt zk => XS.iconst X133.here hx rfl (hb hby at_195) zk) ?_
                show OGoW p e below s room_1 Z _ (OLawQ n0) (T133.setTop (mkF m 196 #[.val (.int q1), .val (.int q2), .val (.int q3), .val (.int q4), .val (.int len), .val (.int ca), .val (.int cb), .val (.int cc), .val (.ref sx), .val (.int (0 : Int32))] [(.int (1 : Int32))]))
                refine own_stW (fun tt zk => XS.goto X133.here hx rfl (pc0 := 196) (pc' := 200) rfl (hb hby at_196) (by decide) (by decide) zk) ?_
                show OGoW p e below s room_1 Z _ (OLawQ n0) (T133.setTop (mkF m 200 #[.val (.int q1), .val (.int q2), .val (.int q3), .val (.int q4), .val (.int len), .val (.int ca), .val (.int cb), .val (.int cc), .val (.ref sx), .val (.int (0 : Int32))] [(.int (1 : Int32))]))
                exact own_retWN X133 hx hlk (t := .boolean) hret (by simp) (hb hby at_200) (by decide) (by decide) hS e133 es hk hZ hEL CH (⟨rfl, Nr127⟩)
            · obtain ⟨T129, X129, e129, st129⟩ := own_callSP X127 hx hZ (y := (⟨"com/example/plain_keys/plainkeys/server/HttpGrammarIsFieldValuePinLaw", "ok", "(C)Z"⟩ : MethodName)) (W := 0) hown (hw _ (List.mem_of_getElem? (i := 47) rfl)) (hw _ (List.mem_of_getElem? (i := 48) rfl)) (hw _ (List.mem_of_getElem? (i := 49) rfl)) (hw _ (List.mem_of_getElem? (i := 50) rfl)) (by decide) (ro l Z a0 hw ca 0 T127.heap (own_obf h_ca)) (by decide) (by decide) (g := (mkF m 103 #[.val (.int q1), .val (.int q2), .val (.int q3), .val (.int q4), .val (.int len), .val (.int ca), .val (.int cb), .val (.int cc), .val (.ref sx), .unset] [(.int ca)])) rfl (by rw [hml]; rfl) (argsL := [(.int ca)]) (rest := []) (lenOf pd_18 rfl) rfl (by show 2 * 0 + _ ≤ _; exact Nat.le_of_eq rfl) (hb hby at_103) rfl rfl (by decide) (by decide)
              refine own_stW st129 ?_
              show OGoW p e below s room_1 Z _ (OLawQ n0) (T129.setTop (mkF m 106 #[.val (.int q1), .val (.int q2), .val (.int q3), .val (.int q4), .val (.int len), .val (.int ca), .val (.int cb), .val (.int cc), .val (.ref sx), .unset] [(.int (0 : Int32))]))
              refine own_stW (fun tt zk => XS.ifYes X129.here hx rfl (pc0 := 106) (pc' := 121) rfl (hb hby at_106) rfl ((if0 _ _).trans (teq ((by decide : (0 : Int32) = (0 : Int32)))).1) (by decide) (by decide) zk) ?_
              show OGoW p e below s room_1 Z _ (OLawQ n0) (T129.setTop (mkF m 121 #[.val (.int q1), .val (.int q2), .val (.int q3), .val (.int q4), .val (.int len), .val (.int ca), .val (.int cb), .val (.int cc), .val (.ref sx), .unset] []))
              refine own_stW (fun tt zk => XS.iconst X129.here hx rfl (hb hby at_121) zk) ?_
              show OGoW p e below s room_1 Z _ (OLawQ n0) (T129.setTop (mkF m 122 #[.val (.int q1), .val (.int q2), .val (.int q3), .val (.int q4), .val (.int len), .val (.int ca), .val (.int cb), .val (.int cc), .val (.ref sx), .unset] [(.int (0 : Int32))]))
              refine own_stW (fun tt zk => XS.istore X129.here hx rfl (hb hby at_122) rfl (l' := #[.val (.int q1), .val (.int q2), .val (.int q3), .val (.int q4), .val (.int len), .val (.int ca), .val (.int cb), .val (.int cc), .val (.ref sx), .val (.int (0 : Int32))]) rfl zk) ?_
              show OGoW p e below s room_1 Z _ (OLawQ n0) (T129.setTop (mkF m 124 #[.val (.int q1), .val (.int q2), .val (.int q3), .val (.int q4), .val (.int len), .val (.int ca), .val (.int cb), .val (.int cc), .val (.ref sx), .val (.int (0 : Int32))] []))
              refine own_stW (fun tt zk => XS.goto X129.here hx rfl (pc0 := 124) (pc' := 185) rfl (hb hby at_124) (by decide) (by decide) zk) ?_
              show OGoW p e below s room_1 Z _ (OLawQ n0) (T129.setTop (mkF m 185 #[.val (.int q1), .val (.int q2), .val (.int q3), .val (.int q4), .val (.int len), .val (.int ca), .val (.int cb), .val (.int cc), .val (.ref sx), .val (.int (0 : Int32))] []))
              refine own_stW (fun tt zk => XS.aload X129.here hx rfl (hb hby at_185) rfl rfl zk) ?_
              show OGoW p e below s room_1 Z _ (OLawQ n0) (T129.setTop (mkF m 187 #[.val (.int q1), .val (.int q2), .val (.int q3), .val (.int q4), .val (.int len), .val (.int ca), .val (.int cb), .val (.int cc), .val (.ref sx), .val (.int (0 : Int32))] [(.ref sx)]))
              obtain ⟨T134, X134, e134, st134⟩ := own_callSP X129 hx hZ (y := (⟨"com/example/plain_keys/plainkeys/server/HttpGrammar", "isFieldValue", "(Ljava/lang/String;)Z"⟩ : MethodName)) (W := 0) hown (hw _ (List.mem_of_getElem? (i := 22) rfl)) (hw _ (List.mem_of_getElem? (i := 23) rfl)) (hw _ (List.mem_of_getElem? (i := 24) rfl)) (hw _ (List.mem_of_getElem? (i := 25) rfl)) (by decide) (riL l Z a0 hw sx t1 2 (own_c3 ca cb cb) cs fm (0 : Int32) T127.heap E_sx F_coder_sx F_value_sx A_t1 S_COMPACT_STRINGS S_SIOOBE_FORMATTER hcs cat_fm ir_fm (by decide) (own_bd bd_ca bd_cb bd_cb 2) (own_le2 g_ca g_cb) (by simp [own_from, own_c3, own_c0, OB, hl0, hl1, hl2, h_ca])) (by decide) (by decide) (g := (mkF m 187 #[.val (.int q1), .val (.int q2), .val (.int q3), .val (.int q4), .val (.int len), .val (.int ca), .val (.int cb), .val (.int cc), .val (.ref sx), .val (.int (0 : Int32))] [(.ref sx)])) rfl (by rw [hml]; rfl) (argsL := [(.ref sx)]) (rest := []) (lenOf pd_17 rfl) rfl (by show 2 * 0 + _ ≤ _; exact Nat.le_of_eq rfl) (hb hby at_187) rfl e129 (by decide) (by decide)
              refine own_stW st134 ?_
              show OGoW p e below s room_1 Z _ (OLawQ n0) (T134.setTop (mkF m 190 #[.val (.int q1), .val (.int q2), .val (.int q3), .val (.int q4), .val (.int len), .val (.int ca), .val (.int cb), .val (.int cc), .val (.ref sx), .val (.int (0 : Int32))] [(.int (0 : Int32))]))
              refine own_stW (fun tt zk => XS.iload X134.here hx rfl (hb hby at_190) rfl zk) ?_
              show OGoW p e below s room_1 Z _ (OLawQ n0) (T134.setTop (mkF m 192 #[.val (.int q1), .val (.int q2), .val (.int q3), .val (.int q4), .val (.int len), .val (.int ca), .val (.int cb), .val (.int cc), .val (.ref sx), .val (.int (0 : Int32))] [(.int (0 : Int32)), (.int (0 : Int32))]))
              refine own_stW (fun tt zk => XS.icmpNo X134.here hx rfl (hb hby at_192) rfl (teq (rfl)).2 zk) ?_
              show OGoW p e below s room_1 Z _ (OLawQ n0) (T134.setTop (mkF m 195 #[.val (.int q1), .val (.int q2), .val (.int q3), .val (.int q4), .val (.int len), .val (.int ca), .val (.int cb), .val (.int cc), .val (.ref sx), .val (.int (0 : Int32))] []))
              refine own_stW (fun tt zk => XS.iconst X134.here hx rfl (hb hby at_195) zk) ?_
              show OGoW p e below s room_1 Z _ (OLawQ n0) (T134.setTop (mkF m 196 #[.val (.int q1), .val (.int q2), .val (.int q3), .val (.int q4), .val (.int len), .val (.int ca), .val (.int cb), .val (.int cc), .val (.ref sx), .val (.int (0 : Int32))] [(.int (1 : Int32))]))
              refine own_stW (fun tt zk => XS.goto X134.here hx rfl (pc0 := 196) (pc' := 200) rfl (hb hby at_196) (by decide) (by decide) zk) ?_
              show OGoW p e below s room_1 Z _ (OLawQ n0) (T134.setTop (mkF m 200 #[.val (.int q1), .val (.int q2), .val (.int q3), .val (.int q4), .val (.int len), .val (.int ca), .val (.int cb), .val (.int cc), .val (.ref sx), .val (.int (0 : Int32))] [(.int (1 : Int32))]))
              exact own_retWN X134 hx hlk (t := .boolean) hret (by simp) (hb hby at_200) (by decide) (by decide) hS e134 es hk hZ hEL CH (⟨rfl, Nr127⟩)
      · refine own_stW (fun tt zk => XS.icmpYes X0.here hx rfl (pc0 := 76) (pc' := 127) rfl (hb hby at_76) rfl (feq (hl2)).2 (by decide) (by decide) zk) ?_
        show OGoW p e below s room_1 Z _ (OLawQ n0) (T0.setTop (mkF m 127 #[.val (.int q1), .val (.int q2), .val (.int q3), .val (.int q4), .val (.int len), .val (.int ca), .val (.int cb), .val (.int cc), .unset, .unset] []))
        obtain ⟨T135, hp135, X135, e135, Ex135, Aa135, Dd135, -, st135⟩ := newO X0 hx hZ hown (hw _ (List.mem_of_getElem? (i := 0) rfl)) (hw _ (List.mem_of_getElem? (i := 1) rfl)) (hw _ (List.mem_of_getElem? (i := 2) rfl)) e0 (g := (mkF m 127 #[.val (.int q1), .val (.int q2), .val (.int q3), .val (.int q4), .val (.int len), .val (.int ca), .val (.int cb), .val (.int cc), .unset, .unset] [])) rfl (hb hby at_127) (by decide) (by decide)
        obtain ⟨sx, gs135⟩ : ∃ z, z = h0.size := ⟨_, rfl⟩
        rw [← gs135] at Aa135 Dd135 st135
        have old_sx : n0 ≤ sx := Nat.le_trans Z0 (Nat.le_of_eq gs135.symm)
        have Z0 := Nat.le_trans Z0 Ex135.1
        have hk := Nat.le_trans hk Ex135.1
        have CH := CH.trans (CHr.ext Ex135 CH.1)
        have S_COMPACT_STRINGS := S_COMPACT_STRINGS.ext Ex135
        have S_SIOOBE_FORMATTER := S_SIOOBE_FORMATTER.ext Ex135
        have S__assertionsDisabled := S__assertionsDisabled.ext Ex135
        have S_HI_BYTE_SHIFT := S_HI_BYTE_SHIFT.ext Ex135
        have S_LO_BYTE_SHIFT := S_LO_BYTE_SHIFT.ext Ex135
        have E_sx := Aa135
        have F_value_sx : Fld Z hp135 sx "java/lang/String" "value" "[B" .null := Dd135 (Or.inr (hw _ (List.mem_of_getElem? (i := 16) rfl))) (ty := (.array .byte)) (by decide)
        have F_coder_sx : Fld Z hp135 sx "java/lang/String" "coder" "B" (.int (0 : Int32)) := Dd135 (Or.inr (hw _ (List.mem_of_getElem? (i := 17) rfl))) (ty := .byte) (by decide)
        refine own_stW st135 ?_
        show OGoW p e below s room_1 Z _ (OLawQ n0) (T135.setTop (mkF m 130 #[.val (.int q1), .val (.int q2), .val (.int q3), .val (.int q4), .val (.int len), .val (.int ca), .val (.int cb), .val (.int cc), .unset, .unset] [(.ref sx)]))
        refine own_stW (fun tt zk => XS.dup X135.here hx rfl (hb hby at_130) rfl rfl zk) ?_
        show OGoW p e below s room_1 Z _ (OLawQ n0) (T135.setTop (mkF m 131 #[.val (.int q1), .val (.int q2), .val (.int q3), .val (.int q4), .val (.int len), .val (.int ca), .val (.int cb), .val (.int cc), .unset, .unset] [(.ref sx), (.ref sx)]))
        refine own_stW (fun tt zk => XS.iconst X135.here hx rfl (hb hby at_131) zk) ?_
        show OGoW p e below s room_1 Z _ (OLawQ n0) (T135.setTop (mkF m 132 #[.val (.int q1), .val (.int q2), .val (.int q3), .val (.int q4), .val (.int len), .val (.int ca), .val (.int cb), .val (.int cc), .unset, .unset] [(.int (3 : Int32)), (.ref sx), (.ref sx)]))
        obtain ⟨T136, hp136, kk136, X136, e136, Ex136, Aa136, st136⟩ := newP X135 hx hZ (hw _ (List.mem_of_getElem? (i := 3) rfl)) e135 (g := (mkF m 132 #[.val (.int q1), .val (.int q2), .val (.int q3), .val (.int q4), .val (.int len), .val (.int ca), .val (.int cb), .val (.int cc), .unset, .unset] [(.int (3 : Int32)), (.ref sx), (.ref sx)])) rfl (hb hby at_132) rfl (by decide) (cap := 3) (by decide) (by decide) (by decide) (by decide)
        obtain ⟨ax, gs136⟩ : ∃ z, z = hp135.size := ⟨_, rfl⟩
        rw [← gs136] at Aa136 st136
        have ne_sx_ax : sx ≠ ax := Nat.ne_of_lt (Nat.lt_of_lt_of_le E_sx.lt (Nat.le_of_eq gs136.symm))
        have old_ax : n0 ≤ ax := Nat.le_trans Z0 (Nat.le_of_eq gs136.symm)
        have Z0 := Nat.le_trans Z0 Ex136.1
        have hk := Nat.le_trans hk Ex136.1
        have CH := CH.trans (CHr.ext Ex136 CH.1)
        have S_COMPACT_STRINGS := S_COMPACT_STRINGS.ext Ex136
        have S_SIOOBE_FORMATTER := S_SIOOBE_FORMATTER.ext Ex136
        have S__assertionsDisabled := S__assertionsDisabled.ext Ex136
        have S_HI_BYTE_SHIFT := S_HI_BYTE_SHIFT.ext Ex136
        have S_LO_BYTE_SHIFT := S_LO_BYTE_SHIFT.ext Ex136
        have E_sx := E_sx.ext Ex136
        have F_value_sx := F_value_sx.ext Ex136
        have F_coder_sx := F_coder_sx.ext Ex136
        have A_ax := OAr.new Aa136
        refine own_stW st136 ?_
        show OGoW p e below s room_1 Z _ (OLawQ n0) (T136.setTop (mkF m 134 #[.val (.int q1), .val (.int q2), .val (.int q3), .val (.int q4), .val (.int len), .val (.int ca), .val (.int cb), .val (.int cc), .unset, .unset] [(.ref ax), (.ref sx), (.ref sx)]))
        refine own_stW (fun tt zk => XS.dup X136.here hx rfl (hb hby at_134) rfl rfl zk) ?_
        show OGoW p e below s room_1 Z _ (OLawQ n0) (T136.setTop (mkF m 135 #[.val (.int q1), .val (.int q2), .val (.int q3), .val (.int q4), .val (.int len), .val (.int ca), .val (.int cb), .val (.int cc), .unset, .unset] [(.ref ax), (.ref ax), (.ref sx), (.ref sx)]))
        refine own_stW (fun tt zk => XS.iconst X136.here hx rfl (hb hby at_135) zk) ?_
        show OGoW p e below s room_1 Z _ (OLawQ n0) (T136.setTop (mkF m 136 #[.val (.int q1), .val (.int q2), .val (.int q3), .val (.int q4), .val (.int len), .val (.int ca), .val (.int cb), .val (.int cc), .unset, .unset] [(.int (0 : Int32)), (.ref ax), (.ref ax), (.ref sx), (.ref sx)]))
        refine own_stW (fun tt zk => XS.iload X136.here hx rfl (hb hby at_136) rfl zk) ?_
        show OGoW p e below s room_1 Z _ (OLawQ n0) (T136.setTop (mkF m 138 #[.val (.int q1), .val (.int q2), .val (.int q3), .val (.int q4), .val (.int len), .val (.int ca), .val (.int cb), .val (.int cc), .unset, .unset] [(.int ca), (.int (0 : Int32)), (.ref ax), (.ref ax), (.ref sx), (.ref sx)]))
        obtain ⟨cl137, Ar137, Sz137, Hh137⟩ := id A_ax
        obtain ⟨T137, hp137, X137, e137, Ww137, st137⟩ := stC X136 hx hZ e136 Ar137 (j := (0 : Int32)) (own_in Sz137 (by decide) (by decide)) (g := (mkF m 138 #[.val (.int q1), .val (.int q2), .val (.int q3), .val (.int q4), .val (.int len), .val (.int ca), .val (.int cb), .val (.int cc), .unset, .unset] [(.int ca), (.int (0 : Int32)), (.ref ax), (.ref ax), (.ref sx), (.ref sx)])) rfl rfl (hb hby at_138)
        have Nf137 := Fr.snoc X137 N0 old_ax
        have Z0 := Nat.le_trans Z0 (Keep.of_wr Ww137).1
        have hk := Nat.le_trans hk (Keep.of_wr Ww137).1
        have CH := CH.trans (CHr.wr Ww137 (own_safe_arr hZ.alike A_ax (by decide)) CH.1)
        have S_COMPACT_STRINGS := S_COMPACT_STRINGS.wr Ww137
        have S_SIOOBE_FORMATTER := S_SIOOBE_FORMATTER.wr Ww137
        have S__assertionsDisabled := S__assertionsDisabled.wr Ww137
        have S_HI_BYTE_SHIFT := S_HI_BYTE_SHIFT.wr Ww137
        have S_LO_BYTE_SHIFT := S_LO_BYTE_SHIFT.wr Ww137
        have E_sx := E_sx.wr Ww137
        have F_value_sx := F_value_sx.other Ww137 (Or.inl ne_sx_ax)
        have F_coder_sx := F_coder_sx.other Ww137 (Or.inl ne_sx_ax)
        have A_ax := OAr.set Ar137 Sz137 Hh137 Ww137
        refine own_stW st137 ?_
        show OGoW p e below s room_1 Z _ (OLawQ n0) (T137.setTop (mkF m 139 #[.val (.int q1), .val (.int q2), .val (.int q3), .val (.int q4), .val (.int len), .val (.int ca), .val (.int cb), .val (.int cc), .unset, .unset] [(.ref ax), (.ref sx), (.ref sx)]))
        refine own_stW (fun tt zk => XS.dup X137.here hx rfl (hb hby at_139) rfl rfl zk) ?_
        show OGoW p e below s room_1 Z _ (OLawQ n0) (T137.setTop (mkF m 140 #[.val (.int q1), .val (.int q2), .val (.int q3), .val (.int q4), .val (.int len), .val (.int ca), .val (.int cb), .val (.int cc), .unset, .unset] [(.ref ax), (.ref ax), (.ref sx), (.ref sx)]))
        refine own_stW (fun tt zk => XS.iconst X137.here hx rfl (hb hby at_140) zk) ?_
        show OGoW p e below s room_1 Z _ (OLawQ n0) (T137.setTop (mkF m 141 #[.val (.int q1), .val (.int q2), .val (.int q3), .val (.int q4), .val (.int len), .val (.int ca), .val (.int cb), .val (.int cc), .unset, .unset] [(.int (1 : Int32)), (.ref ax), (.ref ax), (.ref sx), (.ref sx)]))
        refine own_stW (fun tt zk => XS.iload X137.here hx rfl (hb hby at_141) rfl zk) ?_
        show OGoW p e below s room_1 Z _ (OLawQ n0) (T137.setTop (mkF m 143 #[.val (.int q1), .val (.int q2), .val (.int q3), .val (.int q4), .val (.int len), .val (.int ca), .val (.int cb), .val (.int cc), .unset, .unset] [(.int cb), (.int (1 : Int32)), (.ref ax), (.ref ax), (.ref sx), (.ref sx)]))
        obtain ⟨cl138, Ar138, Sz138, Hh138⟩ := id A_ax
        obtain ⟨T138, hp138, X138, e138, Ww138, st138⟩ := stC X137 hx hZ e137 Ar138 (j := (1 : Int32)) (own_in Sz138 (by decide) (by decide)) (g := (mkF m 143 #[.val (.int q1), .val (.int q2), .val (.int q3), .val (.int q4), .val (.int len), .val (.int ca), .val (.int cb), .val (.int cc), .unset, .unset] [(.int cb), (.int (1 : Int32)), (.ref ax), (.ref ax), (.ref sx), (.ref sx)])) rfl rfl (hb hby at_143)
        have Nf138 := Fr.snoc X138 Nf137 old_ax
        have Z0 := Nat.le_trans Z0 (Keep.of_wr Ww138).1
        have hk := Nat.le_trans hk (Keep.of_wr Ww138).1
        have CH := CH.trans (CHr.wr Ww138 (own_safe_arr hZ.alike A_ax (by decide)) CH.1)
        have S_COMPACT_STRINGS := S_COMPACT_STRINGS.wr Ww138
        have S_SIOOBE_FORMATTER := S_SIOOBE_FORMATTER.wr Ww138
        have S__assertionsDisabled := S__assertionsDisabled.wr Ww138
        have S_HI_BYTE_SHIFT := S_HI_BYTE_SHIFT.wr Ww138
        have S_LO_BYTE_SHIFT := S_LO_BYTE_SHIFT.wr Ww138
        have E_sx := E_sx.wr Ww138
        have F_value_sx := F_value_sx.other Ww138 (Or.inl ne_sx_ax)
        have F_coder_sx := F_coder_sx.other Ww138 (Or.inl ne_sx_ax)
        have A_ax := OAr.set Ar138 Sz138 Hh138 Ww138
        refine own_stW st138 ?_
        show OGoW p e below s room_1 Z _ (OLawQ n0) (T138.setTop (mkF m 144 #[.val (.int q1), .val (.int q2), .val (.int q3), .val (.int q4), .val (.int len), .val (.int ca), .val (.int cb), .val (.int cc), .unset, .unset] [(.ref ax), (.ref sx), (.ref sx)]))
        refine own_stW (fun tt zk => XS.dup X138.here hx rfl (hb hby at_144) rfl rfl zk) ?_
        show OGoW p e below s room_1 Z _ (OLawQ n0) (T138.setTop (mkF m 145 #[.val (.int q1), .val (.int q2), .val (.int q3), .val (.int q4), .val (.int len), .val (.int ca), .val (.int cb), .val (.int cc), .unset, .unset] [(.ref ax), (.ref ax), (.ref sx), (.ref sx)]))
        refine own_stW (fun tt zk => XS.iconst X138.here hx rfl (hb hby at_145) zk) ?_
        show OGoW p e below s room_1 Z _ (OLawQ n0) (T138.setTop (mkF m 146 #[.val (.int q1), .val (.int q2), .val (.int q3), .val (.int q4), .val (.int len), .val (.int ca), .val (.int cb), .val (.int cc), .unset, .unset] [(.int (2 : Int32)), (.ref ax), (.ref ax), (.ref sx), (.ref sx)]))
        refine own_stW (fun tt zk => XS.iload X138.here hx rfl (hb hby at_146) rfl zk) ?_
        show OGoW p e below s room_1 Z _ (OLawQ n0) (T138.setTop (mkF m 148 #[.val (.int q1), .val (.int q2), .val (.int q3), .val (.int q4), .val (.int len), .val (.int ca), .val (.int cb), .val (.int cc), .unset, .unset] [(.int cc), (.int (2 : Int32)), (.ref ax), (.ref ax), (.ref sx), (.ref sx)]))
        obtain ⟨cl139, Ar139, Sz139, Hh139⟩ := id A_ax
        obtain ⟨T139, hp139, X139, e139, Ww139, st139⟩ := stC X138 hx hZ e138 Ar139 (j := (2 : Int32)) (own_in Sz139 (by decide) (by decide)) (g := (mkF m 148 #[.val (.int q1), .val (.int q2), .val (.int q3), .val (.int q4), .val (.int len), .val (.int ca), .val (.int cb), .val (.int cc), .unset, .unset] [(.int cc), (.int (2 : Int32)), (.ref ax), (.ref ax), (.ref sx), (.ref sx)])) rfl rfl (hb hby at_148)
        have Nf139 := Fr.snoc X139 Nf138 old_ax
        have Z0 := Nat.le_trans Z0 (Keep.of_wr Ww139).1
        have hk := Nat.le_trans hk (Keep.of_wr Ww139).1
        have CH := CH.trans (CHr.wr Ww139 (own_safe_arr hZ.alike A_ax (by decide)) CH.1)
        have S_COMPACT_STRINGS := S_COMPACT_STRINGS.wr Ww139
        have S_SIOOBE_FORMATTER := S_SIOOBE_FORMATTER.wr Ww139
        have S__assertionsDisabled := S__assertionsDisabled.wr Ww139
        have S_HI_BYTE_SHIFT := S_HI_BYTE_SHIFT.wr Ww139
        have S_LO_BYTE_SHIFT := S_LO_BYTE_SHIFT.wr Ww139
        have E_sx := E_sx.wr Ww139
        have F_value_sx := F_value_sx.other Ww139 (Or.inl ne_sx_ax)
        have F_coder_sx := F_coder_sx.other Ww139 (Or.inl ne_sx_ax)
        have A_ax := OAr.set Ar139 Sz139 Hh139 Ww139
        refine own_stW st139 ?_
        show OGoW p e below s room_1 Z _ (OLawQ n0) (T139.setTop (mkF m 149 #[.val (.int q1), .val (.int q2), .val (.int q3), .val (.int q4), .val (.int len), .val (.int ca), .val (.int cb), .val (.int cc), .unset, .unset] [(.ref ax), (.ref sx), (.ref sx)]))
        have A_ax : OAr Z hp139 ax .char 3 (fun j => .int ((own_c3 ca cb cc) j)) := A_ax.cong (fun j hj => by
          have : j = 0 ∨ j = 1 ∨ j = 2 := by have : j < 3 := hj; omega
          rcases this with rfl | rfl | rfl
          · exact congrArg Value.int (own_nc ca bd_ca.1 bd_ca.2)
          · exact congrArg Value.int (own_nc cb bd_cb.1 bd_cb.2)
          · exact congrArg Value.int (own_nc cc bd_cc.1 bd_cc.2))
        by_cases g_ca : (255 : Int32) < ca
        · obtain ⟨_, T140, Lc140, X140, hQ140, st140⟩ := own_callI X139 hx hZ (y := (⟨"java/lang/String", "<init>", "([C)V"⟩ : MethodName)) (W := 1) rfl hown (hw _ (List.mem_of_getElem? (i := 4) rfl)) (hw _ (List.mem_of_getElem? (i := 5) rfl)) (hw _ (List.mem_of_getElem? (i := 6) rfl)) (hw _ (List.mem_of_getElem? (i := 2) rfl)) (by decide) (su10 l Z a0 hw sx ax 3 0 (own_c3 ca cb cc) cs hp139 n0 Z0 old_sx (Ne.symm ne_sx_ax) E_sx F_coder_sx F_value_sx A_ax S_COMPACT_STRINGS S__assertionsDisabled S_HI_BYTE_SHIFT S_LO_BYTE_SHIFT (by decide) (by decide) (fun j hj => absurd hj (Nat.not_lt_zero j)) g_ca (own_bd bd_ca bd_cb bd_cc 3) hcs) (by decide) (by decide) (a := sx) (g := (mkF m 149 #[.val (.int q1), .val (.int q2), .val (.int q3), .val (.int q4), .val (.int len), .val (.int ca), .val (.int cb), .val (.int cc), .unset, .unset] [(.ref ax), (.ref sx), (.ref sx)])) rfl (by rw [hml]; rfl) (argsL := [(.ref ax)]) (rest := [(.ref sx)]) (lenOf pd_16 rfl) rfl (by show 2 * 0 + _ ≤ _; exact Nat.le_of_eq rfl) (hb hby at_149) rfl e139 (by decide) (by decide)
          obtain ⟨t1, rfl, Nq140, Kq140, fq140_t1, q140_0, q140_1, q140_2, q140_3⟩ := hQ140
          have ne_sx_t1 : sx ≠ t1 := Nat.ne_of_lt (Nat.lt_of_lt_of_le E_sx.lt fq140_t1)
          have ne_ax_t1 : ax ≠ t1 := Nat.ne_of_lt (Nat.lt_of_lt_of_le A_ax.lt fq140_t1)
          have old_t1 : n0 ≤ t1 := Nat.le_trans Z0 fq140_t1
          have hpl_Kq140 : ∀ w ∈ [sx], ∃ c : Cell, hp139[w]? = some c ∧ c.vm.isStatics = false := (allS (own_pl_exa E_sx) all0)
          have Z0 := Nat.le_trans Z0 Kq140.1
          have hk := Nat.le_trans hk Kq140.1
          have CH := CH.trans (CHr.keep Kq140 (allS (own_safe_null hZ.alike E_sx F_value_sx) all0) CH.1)
          have S_COMPACT_STRINGS := own_sta_keep S_COMPACT_STRINGS Kq140 hpl_Kq140
          have S_SIOOBE_FORMATTER := own_sta_keep S_SIOOBE_FORMATTER Kq140 hpl_Kq140
          have S__assertionsDisabled := own_sta_keep S__assertionsDisabled Kq140 hpl_Kq140
          have S_HI_BYTE_SHIFT := own_sta_keep S_HI_BYTE_SHIFT Kq140 hpl_Kq140
          have S_LO_BYTE_SHIFT := own_sta_keep S_LO_BYTE_SHIFT Kq140 hpl_Kq140
          have A_ax := A_ax.keep Kq140 (ninS (Ne.symm ne_sx_ax) nin0)
          have Nr140 := Fr.app Nf139 Nq140
          have E_sx := q140_0
          have F_coder_sx := q140_1
          have F_value_sx := q140_2
          have A_t1 := q140_3
          refine own_stW st140 ?_
          show OGoW p e below s room_1 Z _ (OLawQ n0) (T140.setTop (mkF m 152 #[.val (.int q1), .val (.int q2), .val (.int q3), .val (.int q4), .val (.int len), .val (.int ca), .val (.int cb), .val (.int cc), .unset, .unset] [(.ref sx)]))
          refine own_stW (fun tt zk => XS.astore X140.here hx rfl (hb hby at_152) rfl rfl (l' := #[.val (.int q1), .val (.int q2), .val (.int q3), .val (.int q4), .val (.int len), .val (.int ca), .val (.int cb), .val (.int cc), .val (.ref sx), .unset]) rfl zk) ?_
          show OGoW p e below s room_1 Z _ (OLawQ n0) (T140.setTop (mkF m 154 #[.val (.int q1), .val (.int q2), .val (.int q3), .val (.int q4), .val (.int len), .val (.int ca), .val (.int cb), .val (.int cc), .val (.ref sx), .unset] []))
          refine own_stW (fun tt zk => XS.iload X140.here hx rfl (hb hby at_154) rfl zk) ?_
          show OGoW p e below s room_1 Z _ (OLawQ n0) (T140.setTop (mkF m 156 #[.val (.int q1), .val (.int q2), .val (.int q3), .val (.int q4), .val (.int len), .val (.int ca), .val (.int cb), .val (.int cc), .val (.ref sx), .unset] [(.int ca)]))
          by_cases h_ca : own_okb ca = true
          · obtain ⟨T141, X141, e141, st141⟩ := own_callSP X140 hx hZ (y := (⟨"com/example/plain_keys/plainkeys/server/HttpGrammarIsFieldValuePinLaw", "ok", "(C)Z"⟩ : MethodName)) (W := 0) hown (hw _ (List.mem_of_getElem? (i := 47) rfl)) (hw _ (List.mem_of_getElem? (i := 48) rfl)) (hw _ (List.mem_of_getElem? (i := 49) rfl)) (hw _ (List.mem_of_getElem? (i := 50) rfl)) (by decide) (ro l Z a0 hw ca 1 T140.heap (own_obt h_ca)) (by decide) (by decide) (g := (mkF m 156 #[.val (.int q1), .val (.int q2), .val (.int q3), .val (.int q4), .val (.int len), .val (.int ca), .val (.int cb), .val (.int cc), .val (.ref sx), .unset] [(.int ca)])) rfl (by rw [hml]; rfl) (argsL := [(.int ca)]) (rest := []) (lenOf pd_18 rfl) rfl (by show 2 * 0 + _ ≤ _; exact Nat.le_of_eq rfl) (hb hby at_156) rfl rfl (by decide) (by decide)
            refine own_stW st141 ?_
            show OGoW p e below s room_1 Z _ (OLawQ n0) (T141.setTop (mkF m 159 #[.val (.int q1), .val (.int q2), .val (.int q3), .val (.int q4), .val (.int len), .val (.int ca), .val (.int cb), .val (.int cc), .val (.ref sx), .unset] [(.int (1 : Int32))]))
            refine own_stW (fun tt zk => XS.ifNo X141.here hx rfl (hb hby at_159) rfl ((if0 _ _).trans (feq ((by decide : ¬ (1 : Int32) = (0 : Int32)))).1) zk) ?_
            show OGoW p e below s room_1 Z _ (OLawQ n0) (T141.setTop (mkF m 162 #[.val (.int q1), .val (.int q2), .val (.int q3), .val (.int q4), .val (.int len), .val (.int ca), .val (.int cb), .val (.int cc), .val (.ref sx), .unset] []))
            refine own_stW (fun tt zk => XS.iload X141.here hx rfl (hb hby at_162) rfl zk) ?_
            show OGoW p e below s room_1 Z _ (OLawQ n0) (T141.setTop (mkF m 164 #[.val (.int q1), .val (.int q2), .val (.int q3), .val (.int q4), .val (.int len), .val (.int ca), .val (.int cb), .val (.int cc), .val (.ref sx), .unset] [(.int cb)]))
            by_cases h_cb : own_okb cb = true
            · obtain ⟨T143, X143, e143, st143⟩ := own_callSP X141 hx hZ (y := (⟨"com/example/plain_keys/plainkeys/server/HttpGrammarIsFieldValuePinLaw", "ok", "(C)Z"⟩ : MethodName)) (W := 0) hown (hw _ (List.mem_of_getElem? (i := 47) rfl)) (hw _ (List.mem_of_getElem? (i := 48) rfl)) (hw _ (List.mem_of_getElem? (i := 49) rfl)) (hw _ (List.mem_of_getElem? (i := 50) rfl)) (by decide) (ro l Z a0 hw cb 1 T140.heap (own_obt h_cb)) (by decide) (by decide) (g := (mkF m 164 #[.val (.int q1), .val (.int q2), .val (.int q3), .val (.int q4), .val (.int len), .val (.int ca), .val (.int cb), .val (.int cc), .val (.ref sx), .unset] [(.int cb)])) rfl (by rw [hml]; rfl) (argsL := [(.int cb)]) (rest := []) (lenOf pd_18 rfl) rfl (by show 2 * 0 + _ ≤ _; exact Nat.le_of_eq rfl) (hb hby at_164) rfl e141 (by decide) (by decide)
              refine own_stW st143 ?_
              show OGoW p e below s room_1 Z _ (OLawQ n0) (T143.setTop (mkF m 167 #[.val (.int q1), .val (.int q2), .val (.int q3), .val (.int q4), .val (.int len), .val (.int ca), .val (.int cb), .val (.int cc), .val (.ref sx), .unset] [(.int (1 : Int32))]))
              refine own_stW (fun tt zk => XS.ifNo X143.here hx rfl (hb hby at_167) rfl ((if0 _ _).trans (feq ((by decide : ¬ (1 : Int32) = (0 : Int32)))).1) zk) ?_
              show OGoW p e below s room_1 Z _ (OLawQ n0) (T143.setTop (mkF m 170 #[.val (.int q1), .val (.int q2), .val (.int q3), .val (.int q4), .val (.int len), .val (.int ca), .val (.int cb), .val (.int cc), .val (.ref sx), .unset] []))
              refine own_stW (fun tt zk => XS.iload X143.here hx rfl (hb hby at_170) rfl zk) ?_
              show OGoW p e below s room_1 Z _ (OLawQ n0) (T143.setTop (mkF m 172 #[.val (.int q1), .val (.int q2), .val (.int q3), .val (.int q4), .val (.int len), .val (.int ca), .val (.int cb), .val (.int cc), .val (.ref sx), .unset] [(.int cc)]))
              by_cases h_cc : own_okb cc = true
              · obtain ⟨T145, X145, e145, st145⟩ := own_callSP X143 hx hZ (y := (⟨"com/example/plain_keys/plainkeys/server/HttpGrammarIsFieldValuePinLaw", "ok", "(C)Z"⟩ : MethodName)) (W := 0) hown (hw _ (List.mem_of_getElem? (i := 47) rfl)) (hw _ (List.mem_of_getElem? (i := 48) rfl)) (hw _ (List.mem_of_getElem? (i := 49) rfl)) (hw _ (List.mem_of_getElem? (i := 50) rfl)) (by decide) (ro l Z a0 hw cc 1 T140.heap (own_obt h_cc)) (by decide) (by decide) (g := (mkF m 172 #[.val (.int q1), .val (.int q2), .val (.int q3), .val (.int q4), .val (.int len), .val (.int ca), .val (.int cb), .val (.int cc), .val (.ref sx), .unset] [(.int cc)])) rfl (by rw [hml]; rfl) (argsL := [(.int cc)]) (rest := []) (lenOf pd_18 rfl) rfl (by show 2 * 0 + _ ≤ _; exact Nat.le_of_eq rfl) (hb hby at_172) rfl e143 (by decide) (by decide)
                refine own_stW st145 ?_
                show OGoW p e below s room_1 Z _ (OLawQ n0) (T145.setTop (mkF m 175 #[.val (.int q1), .val (.int q2), .val (.int q3), .val (.int q4), .val (.int len), .val (.int ca), .val (.int cb), .val (.int cc), .val (.ref sx), .unset] [(.int (1 : Int32))]))
                refine own_stW (fun tt zk => XS.ifNo X145.here hx rfl (hb hby at_175) rfl ((if0 _ _).trans (feq ((by decide : ¬ (1 : Int32) = (0 : Int32)))).1) zk) ?_
                show OGoW p e below s room_1 Z _ (OLawQ n0) (T145.setTop (mkF m 178 #[.val (.int q1), .val (.int q2), .val (.int q3), .val (.int q4), .val (.int len), .val (.int ca), .val (.int cb), .val (.int cc), .val (.ref sx), .unset] []))
                refine own_stW (fun tt zk => XS.iconst X145.here hx rfl (hb hby at_178) zk) ?_
                show OGoW p e below s room_1 Z _ (OLawQ n0) (T145.setTop (mkF m 179 #[.val (.int q1), .val (.int q2), .val (.int q3), .val (.int q4), .val (.int len), .val (.int ca), .val (.int cb), .val (.int cc), .val (.ref sx), .unset] [(.int (1 : Int32))]))
                refine own_stW (fun tt zk => XS.goto X145.here hx rfl (pc0 := 179) (pc' := 183) rfl (hb hby at_179) (by decide) (by decide) zk) ?_
                show OGoW p e below s room_1 Z _ (OLawQ n0) (T145.setTop (mkF m 183 #[.val (.int q1), .val (.int q2), .val (.int q3), .val (.int q4), .val (.int len), .val (.int ca), .val (.int cb), .val (.int cc), .val (.ref sx), .unset] [(.int (1 : Int32))]))
                refine own_stW (fun tt zk => XS.istore X145.here hx rfl (hb hby at_183) rfl (l' := #[.val (.int q1), .val (.int q2), .val (.int q3), .val (.int q4), .val (.int len), .val (.int ca), .val (.int cb), .val (.int cc), .val (.ref sx), .val (.int (1 : Int32))]) rfl zk) ?_
                show OGoW p e below s room_1 Z _ (OLawQ n0) (T145.setTop (mkF m 185 #[.val (.int q1), .val (.int q2), .val (.int q3), .val (.int q4), .val (.int len), .val (.int ca), .val (.int cb), .val (.int cc), .val (.ref sx), .val (.int (1 : Int32))] []))
                refine own_stW (fun tt zk => XS.aload X145.here hx rfl (hb hby at_185) rfl rfl zk) ?_
                show OGoW p e below s room_1 Z _ (OLawQ n0) (T145.setTop (mkF m 187 #[.val (.int q1), .val (.int q2), .val (.int q3), .val (.int q4), .val (.int len), .val (.int ca), .val (.int cb), .val (.int cc), .val (.ref sx), .val (.int (1 : Int32))] [(.ref sx)]))
                obtain ⟨T147, X147, e147, st147⟩ := own_callSP X145 hx hZ (y := (⟨"com/example/plain_keys/plainkeys/server/HttpGrammar", "isFieldValue", "(Ljava/lang/String;)Z"⟩ : MethodName)) (W := 0) hown (hw _ (List.mem_of_getElem? (i := 22) rfl)) (hw _ (List.mem_of_getElem? (i := 23) rfl)) (hw _ (List.mem_of_getElem? (i := 24) rfl)) (hw _ (List.mem_of_getElem? (i := 25) rfl)) (by decide) (riU l Z a0 hw sx t1 3 (own_c3 ca cb cc) cs fm (1 : Int32) T140.heap E_sx F_coder_sx F_value_sx A_t1 S_COMPACT_STRINGS S_SIOOBE_FORMATTER S__assertionsDisabled S_HI_BYTE_SHIFT S_LO_BYTE_SHIFT hcs cat_fm ir_fm (by decide) (own_bd bd_ca bd_cb bd_cc 3) (by simp [own_from, own_c3, own_c0, OB, hl0, hl1, hl2, h_ca, h_cb, h_cc])) (by decide) (by decide) (g := (mkF m 187 #[.val (.int q1), .val (.int q2), .val (.int q3), .val (.int q4), .val (.int len), .val (.int ca), .val (.int cb), .val (.int cc), .val (.ref sx), .val (.int (1 : Int32))] [(.ref sx)])) rfl (by rw [hml]; rfl) (argsL := [(.ref sx)]) (rest := []) (lenOf pd_17 rfl) rfl (by show 2 * 0 + _ ≤ _; exact Nat.le_of_eq rfl) (hb hby at_187) rfl e145 (by decide) (by decide)
                refine own_stW st147 ?_
                show OGoW p e below s room_1 Z _ (OLawQ n0) (T147.setTop (mkF m 190 #[.val (.int q1), .val (.int q2), .val (.int q3), .val (.int q4), .val (.int len), .val (.int ca), .val (.int cb), .val (.int cc), .val (.ref sx), .val (.int (1 : Int32))] [(.int (1 : Int32))]))
                refine own_stW (fun tt zk => XS.iload X147.here hx rfl (hb hby at_190) rfl zk) ?_
                show OGoW p e below s room_1 Z _ (OLawQ n0) (T147.setTop (mkF m 192 #[.val (.int q1), .val (.int q2), .val (.int q3), .val (.int q4), .val (.int len), .val (.int ca), .val (.int cb), .val (.int cc), .val (.ref sx), .val (.int (1 : Int32))] [(.int (1 : Int32)), (.int (1 : Int32))]))
                refine own_stW (fun tt zk => XS.icmpNo X147.here hx rfl (hb hby at_192) rfl (teq (rfl)).2 zk) ?_
                show OGoW p e below s room_1 Z _ (OLawQ n0) (T147.setTop (mkF m 195 #[.val (.int q1), .val (.int q2), .val (.int q3), .val (.int q4), .val (.int len), .val (.int ca), .val (.int cb), .val (.int cc), .val (.ref sx), .val (.int (1 : Int32))] []))
                refine own_stW (fun tt zk => XS.iconst X147.here hx rfl (hb hby at_195) zk) ?_
                show OGoW p e below s room_1 Z _ (OLawQ n0) (T147.setTop (mkF m 196 #[.val (.int q1), .val (.int q2), .val (.int q3), .val (.int q4), .val (.int len), .val (.int ca), .val (.int cb), .val (.int cc), .val (.ref sx), .val (.int (1 : Int32))] [(.int (1 : Int32))]))
                refine own_stW (fun tt zk => XS.goto X147.here hx rfl (pc0 := 196) (pc' := 200) rfl (hb hby at_196) (by decide) (by decide) zk) ?_
                show OGoW p e below s room_1 Z _ (OLawQ n0) (T147.setTop (mkF m 200 #[.val (.int q1), .val (.int q2), .val (.int q3), .val (.int q4), .val (.int len), .val (.int ca), .val (.int cb), .val (.int cc), .val (.ref sx), .val (.int (1 : Int32))] [(.int (1 : Int32))]))
                exact own_retWN X147 hx hlk (t := .boolean) hret (by simp) (hb hby at_200) (by decide) (by decide) hS e147 es hk hZ hEL CH (⟨rfl, Nr140⟩)
              · obtain ⟨T146, X146, e146, st146⟩ := own_callSP X143 hx hZ (y := (⟨"com/example/plain_keys/plainkeys/server/HttpGrammarIsFieldValuePinLaw", "ok", "(C)Z"⟩ : MethodName)) (W := 0) hown (hw _ (List.mem_of_getElem? (i := 47) rfl)) (hw _ (List.mem_of_getElem? (i := 48) rfl)) (hw _ (List.mem_of_getElem? (i := 49) rfl)) (hw _ (List.mem_of_getElem? (i := 50) rfl)) (by decide) (ro l Z a0 hw cc 0 T140.heap (own_obf h_cc)) (by decide) (by decide) (g := (mkF m 172 #[.val (.int q1), .val (.int q2), .val (.int q3), .val (.int q4), .val (.int len), .val (.int ca), .val (.int cb), .val (.int cc), .val (.ref sx), .unset] [(.int cc)])) rfl (by rw [hml]; rfl) (argsL := [(.int cc)]) (rest := []) (lenOf pd_18 rfl) rfl (by show 2 * 0 + _ ≤ _; exact Nat.le_of_eq rfl) (hb hby at_172) rfl e143 (by decide) (by decide)
                refine own_stW st146 ?_
                show OGoW p e below s room_1 Z _ (OLawQ n0) (T146.setTop (mkF m 175 #[.val (.int q1), .val (.int q2), .val (.int q3), .val (.int q4), .val (.int len), .val (.int ca), .val (.int cb), .val (.int cc), .val (.ref sx), .unset] [(.int (0 : Int32))]))
                refine own_stW (fun tt zk => XS.ifYes X146.here hx rfl (pc0 := 175) (pc' := 182) rfl (hb hby at_175) rfl ((if0 _ _).trans (teq ((by decide : (0 : Int32) = (0 : Int32)))).1) (by decide) (by decide) zk) ?_
                show OGoW p e below s room_1 Z _ (OLawQ n0) (T146.setTop (mkF m 182 #[.val (.int q1), .val (.int q2), .val (.int q3), .val (.int q4), .val (.int len), .val (.int ca), .val (.int cb), .val (.int cc), .val (.ref sx), .unset] []))
                refine own_stW (fun tt zk => XS.iconst X146.here hx rfl (hb hby at_182) zk) ?_
                show OGoW p e below s room_1 Z _ (OLawQ n0) (T146.setTop (mkF m 183 #[.val (.int q1), .val (.int q2), .val (.int q3), .val (.int q4), .val (.int len), .val (.int ca), .val (.int cb), .val (.int cc), .val (.ref sx), .unset] [(.int (0 : Int32))]))
                refine own_stW (fun tt zk => XS.istore X146.here hx rfl (hb hby at_183) rfl (l' := #[.val (.int q1), .val (.int q2), .val (.int q3), .val (.int q4), .val (.int len), .val (.int ca), .val (.int cb), .val (.int cc), .val (.ref sx), .val (.int (0 : Int32))]) rfl zk) ?_
                show OGoW p e below s room_1 Z _ (OLawQ n0) (T146.setTop (mkF m 185 #[.val (.int q1), .val (.int q2), .val (.int q3), .val (.int q4), .val (.int len), .val (.int ca), .val (.int cb), .val (.int cc), .val (.ref sx), .val (.int (0 : Int32))] []))
                refine own_stW (fun tt zk => XS.aload X146.here hx rfl (hb hby at_185) rfl rfl zk) ?_
                show OGoW p e below s room_1 Z _ (OLawQ n0) (T146.setTop (mkF m 187 #[.val (.int q1), .val (.int q2), .val (.int q3), .val (.int q4), .val (.int len), .val (.int ca), .val (.int cb), .val (.int cc), .val (.ref sx), .val (.int (0 : Int32))] [(.ref sx)]))
                obtain ⟨T148, X148, e148, st148⟩ := own_callSP X146 hx hZ (y := (⟨"com/example/plain_keys/plainkeys/server/HttpGrammar", "isFieldValue", "(Ljava/lang/String;)Z"⟩ : MethodName)) (W := 0) hown (hw _ (List.mem_of_getElem? (i := 22) rfl)) (hw _ (List.mem_of_getElem? (i := 23) rfl)) (hw _ (List.mem_of_getElem? (i := 24) rfl)) (hw _ (List.mem_of_getElem? (i := 25) rfl)) (by decide) (riU l Z a0 hw sx t1 3 (own_c3 ca cb cc) cs fm (0 : Int32) T140.heap E_sx F_coder_sx F_value_sx A_t1 S_COMPACT_STRINGS S_SIOOBE_FORMATTER S__assertionsDisabled S_HI_BYTE_SHIFT S_LO_BYTE_SHIFT hcs cat_fm ir_fm (by decide) (own_bd bd_ca bd_cb bd_cc 3) (by simp [own_from, own_c3, own_c0, OB, hl0, hl1, hl2, h_ca, h_cb, h_cc])) (by decide) (by decide) (g := (mkF m 187 #[.val (.int q1), .val (.int q2), .val (.int q3), .val (.int q4), .val (.int len), .val (.int ca), .val (.int cb), .val (.int cc), .val (.ref sx), .val (.int (0 : Int32))] [(.ref sx)])) rfl (by rw [hml]; rfl) (argsL := [(.ref sx)]) (rest := []) (lenOf pd_17 rfl) rfl (by show 2 * 0 + _ ≤ _; exact Nat.le_of_eq rfl) (hb hby at_187) rfl e146 (by decide) (by decide)
                refine own_stW st148 ?_
                show OGoW p e below s room_1 Z _ (OLawQ n0) (T148.setTop (mkF m 190 #[.val (.int q1), .val (.int q2), .val (.int q3), .val (.int q4), .val (.int len), .val (.int ca), .val (.int cb), .val (.int cc), .val (.ref sx), .val (.int (0 : Int32))] [(.int (0 : Int32))]))
                refine own_stW (fun tt zk => XS.iload X148.here hx rfl (hb hby at_190) rfl zk) ?_
                show OGoW p e below s room_1 Z _ (OLawQ n0) (T148.setTop (mkF m 192 #[.val (.int q1), .val (.int q2), .val (.int q3), .val (.int q4), .val (.int len), .val (.int ca), .val (.int cb), .val (.int cc), .val (.ref sx), .val (.int (0 : Int32))] [(.int (0 : Int32)), (.int (0 : Int32))]))
                refine own_stW (fun tt zk => XS.icmpNo X148.here hx rfl (hb hby at_192) rfl (teq (rfl)).2 zk) ?_
                show OGoW p e below s room_1 Z _ (OLawQ n0) (T148.setTop (mkF m 195 #[.val (.int q1), .val (.int q2), .val (.int q3), .val (.int q4), .val (.int len), .val (.int ca), .val (.int cb), .val (.int cc), .val (.ref sx), .val (.int (0 : Int32))] []))
                refine own_stW (fun tt zk => XS.iconst X148.here hx rfl (hb hby at_195) zk) ?_
                show OGoW p e below s room_1 Z _ (OLawQ n0) (T148.setTop (mkF m 196 #[.val (.int q1), .val (.int q2), .val (.int q3), .val (.int q4), .val (.int len), .val (.int ca), .val (.int cb), .val (.int cc), .val (.ref sx), .val (.int (0 : Int32))] [(.int (1 : Int32))]))
                refine own_stW (fun tt zk => XS.goto X148.here hx rfl (pc0 := 196) (pc' := 200) rfl (hb hby at_196) (by decide) (by decide) zk) ?_
                show OGoW p e below s room_1 Z _ (OLawQ n0) (T148.setTop (mkF m 200 #[.val (.int q1), .val (.int q2), .val (.int q3), .val (.int q4), .val (.int len), .val (.int ca), .val (.int cb), .val (.int cc), .val (.ref sx), .val (.int (0 : Int32))] [(.int (1 : Int32))]))
                exact own_retWN X148 hx hlk (t := .boolean) hret (by simp) (hb hby at_200) (by decide) (by decide) hS e148 es hk hZ hEL CH (⟨rfl, Nr140⟩)
            · obtain ⟨T144, X144, e144, st144⟩ := own_callSP X141 hx hZ (y := (⟨"com/example/plain_keys/plainkeys/server/HttpGrammarIsFieldValuePinLaw", "ok", "(C)Z"⟩ : MethodName)) (W := 0) hown (hw _ (List.mem_of_getElem? (i := 47) rfl)) (hw _ (List.mem_of_getElem? (i := 48) rfl)) (hw _ (List.mem_of_getElem? (i := 49) rfl)) (hw _ (List.mem_of_getElem? (i := 50) rfl)) (by decide) (ro l Z a0 hw cb 0 T140.heap (own_obf h_cb)) (by decide) (by decide) (g := (mkF m 164 #[.val (.int q1), .val (.int q2), .val (.int q3), .val (.int q4), .val (.int len), .val (.int ca), .val (.int cb), .val (.int cc), .val (.ref sx), .unset] [(.int cb)])) rfl (by rw [hml]; rfl) (argsL := [(.int cb)]) (rest := []) (lenOf pd_18 rfl) rfl (by show 2 * 0 + _ ≤ _; exact Nat.le_of_eq rfl) (hb hby at_164) rfl e141 (by decide) (by decide)
              refine own_stW st144 ?_
              show OGoW p e below s room_1 Z _ (OLawQ n0) (T144.setTop (mkF m 167 #[.val (.int q1), .val (.int q2), .val (.int q3), .val (.int q4), .val (.int len), .val (.int ca), .val (.int cb), .val (.int cc), .val (.ref sx), .unset] [(.int (0 : Int32))]))
              refine own_stW (fun tt zk => XS.ifYes X144.here hx rfl (pc0 := 167) (pc' := 182) rfl (hb hby at_167) rfl ((if0 _ _).trans (teq ((by decide : (0 : Int32) = (0 : Int32)))).1) (by decide) (by decide) zk) ?_
              show OGoW p e below s room_1 Z _ (OLawQ n0) (T144.setTop (mkF m 182 #[.val (.int q1), .val (.int q2), .val (.int q3), .val (.int q4), .val (.int len), .val (.int ca), .val (.int cb), .val (.int cc), .val (.ref sx), .unset] []))
              refine own_stW (fun tt zk => XS.iconst X144.here hx rfl (hb hby at_182) zk) ?_
              show OGoW p e below s room_1 Z _ (OLawQ n0) (T144.setTop (mkF m 183 #[.val (.int q1), .val (.int q2), .val (.int q3), .val (.int q4), .val (.int len), .val (.int ca), .val (.int cb), .val (.int cc), .val (.ref sx), .unset] [(.int (0 : Int32))]))
              refine own_stW (fun tt zk => XS.istore X144.here hx rfl (hb hby at_183) rfl (l' := #[.val (.int q1), .val (.int q2), .val (.int q3), .val (.int q4), .val (.int len), .val (.int ca), .val (.int cb), .val (.int cc), .val (.ref sx), .val (.int (0 : Int32))]) rfl zk) ?_
              show OGoW p e below s room_1 Z _ (OLawQ n0) (T144.setTop (mkF m 185 #[.val (.int q1), .val (.int q2), .val (.int q3), .val (.int q4), .val (.int len), .val (.int ca), .val (.int cb), .val (.int cc), .val (.ref sx), .val (.int (0 : Int32))] []))
              refine own_stW (fun tt zk => XS.aload X144.here hx rfl (hb hby at_185) rfl rfl zk) ?_
              show OGoW p e below s room_1 Z _ (OLawQ n0) (T144.setTop (mkF m 187 #[.val (.int q1), .val (.int q2), .val (.int q3), .val (.int q4), .val (.int len), .val (.int ca), .val (.int cb), .val (.int cc), .val (.ref sx), .val (.int (0 : Int32))] [(.ref sx)]))
              obtain ⟨T149, X149, e149, st149⟩ := own_callSP X144 hx hZ (y := (⟨"com/example/plain_keys/plainkeys/server/HttpGrammar", "isFieldValue", "(Ljava/lang/String;)Z"⟩ : MethodName)) (W := 0) hown (hw _ (List.mem_of_getElem? (i := 22) rfl)) (hw _ (List.mem_of_getElem? (i := 23) rfl)) (hw _ (List.mem_of_getElem? (i := 24) rfl)) (hw _ (List.mem_of_getElem? (i := 25) rfl)) (by decide) (riU l Z a0 hw sx t1 3 (own_c3 ca cb cc) cs fm (0 : Int32) T140.heap E_sx F_coder_sx F_value_sx A_t1 S_COMPACT_STRINGS S_SIOOBE_FORMATTER S__assertionsDisabled S_HI_BYTE_SHIFT S_LO_BYTE_SHIFT hcs cat_fm ir_fm (by decide) (own_bd bd_ca bd_cb bd_cc 3) (by simp [own_from, own_c3, own_c0, OB, hl0, hl1, hl2, h_ca, h_cb])) (by decide) (by decide) (g := (mkF m 187 #[.val (.int q1), .val (.int q2), .val (.int q3), .val (.int q4), .val (.int len), .val (.int ca), .val (.int cb), .val (.int cc), .val (.ref sx), .val (.int (0 : Int32))] [(.ref sx)])) rfl (by rw [hml]; rfl) (argsL := [(.ref sx)]) (rest := []) (lenOf pd_17 rfl) rfl (by show 2 * 0 + _ ≤ _; exact Nat.le_of_eq rfl) (hb hby at_187) rfl e144 (by decide) (by decide)
              refine own_stW st149 ?_
              show OGoW p e below s room_1 Z _ (OLawQ n0) (T149.setTop (mkF m 190 #[.val (.int q1), .val (.int q2), .val (.int q3), .val (.int q4), .val (.int len), .val (.int ca), .val (.int cb), .val (.int cc), .val (.ref sx), .val (.int (0 : Int32))] [(.int (0 : Int32))]))
              refine own_stW (fun tt zk => XS.iload X149.here hx rfl (hb hby at_190) rfl zk) ?_
              show OGoW p e below s room_1 Z _ (OLawQ n0) (T149.setTop (mkF m 192 #[.val (.int q1), .val (.int q2), .val (.int q3), .val (.int q4), .val (.int len), .val (.int ca), .val (.int cb), .val (.int cc), .val (.ref sx), .val (.int (0 : Int32))] [(.int (0 : Int32)), (.int (0 : Int32))]))
              refine own_stW (fun tt zk => XS.icmpNo X149.here hx rfl (hb hby at_192) rfl (teq (rfl)).2 zk) ?_
              show OGoW p e below s room_1 Z _ (OLawQ n0) (T149.setTop (mkF m 195 #[.val (.int q1), .val (.int q2), .val (.int q3), .val (.int q4), .val (.int len), .val (.int ca), .val (.int cb), .val (.int cc), .val (.ref sx), .val (.int (0 : Int32))] []))
              refine own_stW (fun tt zk => XS.iconst X149.here hx rfl (hb hby at_195) zk) ?_
              show OGoW p e below s room_1 Z _ (OLawQ n0) (T149.setTop (mkF m 196 #[.val (.int q1), .val (.int q2), .val (.int q3), .val (.int q4), .val (.int len), .val (.int ca), .val (.int cb), .val (.int cc), .val (.ref sx), .val (.int (0 : Int32))] [(.int (1 : Int32))]))
              refine own_stW (fun tt zk => XS.goto X149.here hx rfl (pc0 := 196) (pc' := 200) rfl (hb hby at_196) (by decide) (by decide) zk) ?_
              show OGoW p e below s room_1 Z _ (OLawQ n0) (T149.setTop (mkF m 200 #[.val (.int q1), .val (.int q2), .val (.int q3), .val (.int q4), .val (.int len), .val (.int ca), .val (.int cb), .val (.int cc), .val (.ref sx), .val (.int (0 : Int32))] [(.int (1 : Int32))]))
              exact own_retWN X149 hx hlk (t := .boolean) hret (by simp) (hb hby at_200) (by decide) (by decide) hS e149 es hk hZ hEL CH (⟨rfl, Nr140⟩)
          · obtain ⟨T142, X142, e142, st142⟩ := own_callSP X140 hx hZ (y := (⟨"com/example/plain_keys/plainkeys/server/HttpGrammarIsFieldValuePinLaw", "ok", "(C)Z"⟩ : MethodName)) (W := 0) hown (hw _ (List.mem_of_getElem? (i := 47) rfl)) (hw _ (List.mem_of_getElem? (i := 48) rfl)) (hw _ (List.mem_of_getElem? (i := 49) rfl)) (hw _ (List.mem_of_getElem? (i := 50) rfl)) (by decide) (ro l Z a0 hw ca 0 T140.heap (own_obf h_ca)) (by decide) (by decide) (g := (mkF m 156 #[.val (.int q1), .val (.int q2), .val (.int q3), .val (.int q4), .val (.int len), .val (.int ca), .val (.int cb), .val (.int cc), .val (.ref sx), .unset] [(.int ca)])) rfl (by rw [hml]; rfl) (argsL := [(.int ca)]) (rest := []) (lenOf pd_18 rfl) rfl (by show 2 * 0 + _ ≤ _; exact Nat.le_of_eq rfl) (hb hby at_156) rfl rfl (by decide) (by decide)
            refine own_stW st142 ?_
            show OGoW p e below s room_1 Z _ (OLawQ n0) (T142.setTop (mkF m 159 #[.val (.int q1), .val (.int q2), .val (.int q3), .val (.int q4), .val (.int len), .val (.int ca), .val (.int cb), .val (.int cc), .val (.ref sx), .unset] [(.int (0 : Int32))]))
            refine own_stW (fun tt zk => XS.ifYes X142.here hx rfl (pc0 := 159) (pc' := 182) rfl (hb hby at_159) rfl ((if0 _ _).trans (teq ((by decide : (0 : Int32) = (0 : Int32)))).1) (by decide) (by decide) zk) ?_
            show OGoW p e below s room_1 Z _ (OLawQ n0) (T142.setTop (mkF m 182 #[.val (.int q1), .val (.int q2), .val (.int q3), .val (.int q4), .val (.int len), .val (.int ca), .val (.int cb), .val (.int cc), .val (.ref sx), .unset] []))
            refine own_stW (fun tt zk => XS.iconst X142.here hx rfl (hb hby at_182) zk) ?_
            show OGoW p e below s room_1 Z _ (OLawQ n0) (T142.setTop (mkF m 183 #[.val (.int q1), .val (.int q2), .val (.int q3), .val (.int q4), .val (.int len), .val (.int ca), .val (.int cb), .val (.int cc), .val (.ref sx), .unset] [(.int (0 : Int32))]))
            refine own_stW (fun tt zk => XS.istore X142.here hx rfl (hb hby at_183) rfl (l' := #[.val (.int q1), .val (.int q2), .val (.int q3), .val (.int q4), .val (.int len), .val (.int ca), .val (.int cb), .val (.int cc), .val (.ref sx), .val (.int (0 : Int32))]) rfl zk) ?_
            show OGoW p e below s room_1 Z _ (OLawQ n0) (T142.setTop (mkF m 185 #[.val (.int q1), .val (.int q2), .val (.int q3), .val (.int q4), .val (.int len), .val (.int ca), .val (.int cb), .val (.int cc), .val (.ref sx), .val (.int (0 : Int32))] []))
            refine own_stW (fun tt zk => XS.aload X142.here hx rfl (hb hby at_185) rfl rfl zk) ?_
            show OGoW p e below s room_1 Z _ (OLawQ n0) (T142.setTop (mkF m 187 #[.val (.int q1), .val (.int q2), .val (.int q3), .val (.int q4), .val (.int len), .val (.int ca), .val (.int cb), .val (.int cc), .val (.ref sx), .val (.int (0 : Int32))] [(.ref sx)]))
            obtain ⟨T150, X150, e150, st150⟩ := own_callSP X142 hx hZ (y := (⟨"com/example/plain_keys/plainkeys/server/HttpGrammar", "isFieldValue", "(Ljava/lang/String;)Z"⟩ : MethodName)) (W := 0) hown (hw _ (List.mem_of_getElem? (i := 22) rfl)) (hw _ (List.mem_of_getElem? (i := 23) rfl)) (hw _ (List.mem_of_getElem? (i := 24) rfl)) (hw _ (List.mem_of_getElem? (i := 25) rfl)) (by decide) (riU l Z a0 hw sx t1 3 (own_c3 ca cb cc) cs fm (0 : Int32) T140.heap E_sx F_coder_sx F_value_sx A_t1 S_COMPACT_STRINGS S_SIOOBE_FORMATTER S__assertionsDisabled S_HI_BYTE_SHIFT S_LO_BYTE_SHIFT hcs cat_fm ir_fm (by decide) (own_bd bd_ca bd_cb bd_cc 3) (by simp [own_from, own_c3, own_c0, OB, hl0, hl1, hl2, h_ca])) (by decide) (by decide) (g := (mkF m 187 #[.val (.int q1), .val (.int q2), .val (.int q3), .val (.int q4), .val (.int len), .val (.int ca), .val (.int cb), .val (.int cc), .val (.ref sx), .val (.int (0 : Int32))] [(.ref sx)])) rfl (by rw [hml]; rfl) (argsL := [(.ref sx)]) (rest := []) (lenOf pd_17 rfl) rfl (by show 2 * 0 + _ ≤ _; exact Nat.le_of_eq rfl) (hb hby at_187) rfl e142 (by decide) (by decide)
            refine own_stW st150 ?_
            show OGoW p e below s room_1 Z _ (OLawQ n0) (T150.setTop (mkF m 190 #[.val (.int q1), .val (.int q2), .val (.int q3), .val (.int q4), .val (.int len), .val (.int ca), .val (.int cb), .val (.int cc), .val (.ref sx), .val (.int (0 : Int32))] [(.int (0 : Int32))]))
            refine own_stW (fun tt zk => XS.iload X150.here hx rfl (hb hby at_190) rfl zk) ?_
            show OGoW p e below s room_1 Z _ (OLawQ n0) (T150.setTop (mkF m 192 #[.val (.int q1), .val (.int q2), .val (.int q3), .val (.int q4), .val (.int len), .val (.int ca), .val (.int cb), .val (.int cc), .val (.ref sx), .val (.int (0 : Int32))] [(.int (0 : Int32)), (.int (0 : Int32))]))
            refine own_stW (fun tt zk => XS.icmpNo X150.here hx rfl (hb hby at_192) rfl (teq (rfl)).2 zk) ?_
            show OGoW p e below s room_1 Z _ (OLawQ n0) (T150.setTop (mkF m 195 #[.val (.int q1), .val (.int q2), .val (.int q3), .val (.int q4), .val (.int len), .val (.int ca), .val (.int cb), .val (.int cc), .val (.ref sx), .val (.int (0 : Int32))] []))
            refine own_stW (fun tt zk => XS.iconst X150.here hx rfl (hb hby at_195) zk) ?_
            show OGoW p e below s room_1 Z _ (OLawQ n0) (T150.setTop (mkF m 196 #[.val (.int q1), .val (.int q2), .val (.int q3), .val (.int q4), .val (.int len), .val (.int ca), .val (.int cb), .val (.int cc), .val (.ref sx), .val (.int (0 : Int32))] [(.int (1 : Int32))]))
            refine own_stW (fun tt zk => XS.goto X150.here hx rfl (pc0 := 196) (pc' := 200) rfl (hb hby at_196) (by decide) (by decide) zk) ?_
            show OGoW p e below s room_1 Z _ (OLawQ n0) (T150.setTop (mkF m 200 #[.val (.int q1), .val (.int q2), .val (.int q3), .val (.int q4), .val (.int len), .val (.int ca), .val (.int cb), .val (.int cc), .val (.ref sx), .val (.int (0 : Int32))] [(.int (1 : Int32))]))
            exact own_retWN X150 hx hlk (t := .boolean) hret (by simp) (hb hby at_200) (by decide) (by decide) hS e150 es hk hZ hEL CH (⟨rfl, Nr140⟩)
        · by_cases g_cb : (255 : Int32) < cb
          · obtain ⟨_, T151, Lc151, X151, hQ151, st151⟩ := own_callI X139 hx hZ (y := (⟨"java/lang/String", "<init>", "([C)V"⟩ : MethodName)) (W := 1) rfl hown (hw _ (List.mem_of_getElem? (i := 4) rfl)) (hw _ (List.mem_of_getElem? (i := 5) rfl)) (hw _ (List.mem_of_getElem? (i := 6) rfl)) (hw _ (List.mem_of_getElem? (i := 2) rfl)) (by decide) (su10 l Z a0 hw sx ax 3 1 (own_c3 ca cb cc) cs hp139 n0 Z0 old_sx (Ne.symm ne_sx_ax) E_sx F_coder_sx F_value_sx A_ax S_COMPACT_STRINGS S__assertionsDisabled S_HI_BYTE_SHIFT S_LO_BYTE_SHIFT (by decide) (by decide) (own_le1 g_ca) g_cb (own_bd bd_ca bd_cb bd_cc 3) hcs) (by decide) (by decide) (a := sx) (g := (mkF m 149 #[.val (.int q1), .val (.int q2), .val (.int q3), .val (.int q4), .val (.int len), .val (.int ca), .val (.int cb), .val (.int cc), .unset, .unset] [(.ref ax), (.ref sx), (.ref sx)])) rfl (by rw [hml]; rfl) (argsL := [(.ref ax)]) (rest := [(.ref sx)]) (lenOf pd_16 rfl) rfl (by show 2 * 0 + _ ≤ _; exact Nat.le_of_eq rfl) (hb hby at_149) rfl e139 (by decide) (by decide)
            obtain ⟨t1, rfl, Nq151, Kq151, fq151_t1, q151_0, q151_1, q151_2, q151_3⟩ := hQ151
            have ne_sx_t1 : sx ≠ t1 := Nat.ne_of_lt (Nat.lt_of_lt_of_le E_sx.lt fq151_t1)
            have ne_ax_t1 : ax ≠ t1 := Nat.ne_of_lt (Nat.lt_of_lt_of_le A_ax.lt fq151_t1)
            have old_t1 : n0 ≤ t1 := Nat.le_trans Z0 fq151_t1
            have hpl_Kq151 : ∀ w ∈ [sx], ∃ c : Cell, hp139[w]? = some c ∧ c.vm.isStatics = false := (allS (own_pl_exa E_sx) all0)
            have Z0 := Nat.le_trans Z0 Kq151.1
            have hk := Nat.le_trans hk Kq151.1
            have CH := CH.trans (CHr.keep Kq151 (allS (own_safe_null hZ.alike E_sx F_value_sx) all0) CH.1)
            have S_COMPACT_STRINGS := own_sta_keep S_COMPACT_STRINGS Kq151 hpl_Kq151
            have S_SIOOBE_FORMATTER := own_sta_keep S_SIOOBE_FORMATTER Kq151 hpl_Kq151
            have S__assertionsDisabled := own_sta_keep S__assertionsDisabled Kq151 hpl_Kq151
            have S_HI_BYTE_SHIFT := own_sta_keep S_HI_BYTE_SHIFT Kq151 hpl_Kq151
            have S_LO_BYTE_SHIFT := own_sta_keep S_LO_BYTE_SHIFT Kq151 hpl_Kq151
            have A_ax := A_ax.keep Kq151 (ninS (Ne.symm ne_sx_ax) nin0)
            have Nr151 := Fr.app Nf139 Nq151
            have E_sx := q151_0
            have F_coder_sx := q151_1
            have F_value_sx := q151_2
            have A_t1 := q151_3
            refine own_stW st151 ?_
            show OGoW p e below s room_1 Z _ (OLawQ n0) (T151.setTop (mkF m 152 #[.val (.int q1), .val (.int q2), .val (.int q3), .val (.int q4), .val (.int len), .val (.int ca), .val (.int cb), .val (.int cc), .unset, .unset] [(.ref sx)]))
            refine own_stW (fun tt zk => XS.astore X151.here hx rfl (hb hby at_152) rfl rfl (l' := #[.val (.int q1), .val (.int q2), .val (.int q3), .val (.int q4), .val (.int len), .val (.int ca), .val (.int cb), .val (.int cc), .val (.ref sx), .unset]) rfl zk) ?_
            show OGoW p e below s room_1 Z _ (OLawQ n0) (T151.setTop (mkF m 154 #[.val (.int q1), .val (.int q2), .val (.int q3), .val (.int q4), .val (.int len), .val (.int ca), .val (.int cb), .val (.int cc), .val (.ref sx), .unset] []))
            refine own_stW (fun tt zk => XS.iload X151.here hx rfl (hb hby at_154) rfl zk) ?_
            show OGoW p e below s room_1 Z _ (OLawQ n0) (T151.setTop (mkF m 156 #[.val (.int q1), .val (.int q2), .val (.int q3), .val (.int q4), .val (.int len), .val (.int ca), .val (.int cb), .val (.int cc), .val (.ref sx), .unset] [(.int ca)]))
            by_cases h_ca : own_okb ca = true
            · obtain ⟨T152, X152, e152, st152⟩ := own_callSP X151 hx hZ (y := (⟨"com/example/plain_keys/plainkeys/server/HttpGrammarIsFieldValuePinLaw", "ok", "(C)Z"⟩ : MethodName)) (W := 0) hown (hw _ (List.mem_of_getElem? (i := 47) rfl)) (hw _ (List.mem_of_getElem? (i := 48) rfl)) (hw _ (List.mem_of_getElem? (i := 49) rfl)) (hw _ (List.mem_of_getElem? (i := 50) rfl)) (by decide) (ro l Z a0 hw ca 1 T151.heap (own_obt h_ca)) (by decide) (by decide) (g := (mkF m 156 #[.val (.int q1), .val (.int q2), .val (.int q3), .val (.int q4), .val (.int len), .val (.int ca), .val (.int cb), .val (.int cc), .val (.ref sx), .unset] [(.int ca)])) rfl (by rw [hml]; rfl) (argsL := [(.int ca)]) (rest := []) (lenOf pd_18 rfl) rfl (by show 2 * 0 + _ ≤ _; exact Nat.le_of_eq rfl) (hb hby at_156) rfl rfl (by decide) (by decide)
              refine own_stW st152 ?_
              show OGoW p e below s room_1 Z _ (OLawQ n0) (T152.setTop (mkF m 159 #[.val (.int q1), .val (.int q2), .val (.int q3), .val (.int q4), .val (.int len), .val (.int ca), .val (.int cb), .val (.int cc), .val (.ref sx), .unset] [(.int (1 : Int32))]))
              refine own_stW (fun tt zk => XS.ifNo X152.here hx rfl (hb hby at_159) rfl ((if0 _ _).trans (feq ((by decide : ¬ (1 : Int32) = (0 : Int32)))).1) zk) ?_
              show OGoW p e below s room_1 Z _ (OLawQ n0) (T152.setTop (mkF m 162 #[.val (.int q1), .val (.int q2), .val (.int q3), .val (.int q4), .val (.int len), .val (.int ca), .val (.int cb), .val (.int cc), .val (.ref sx), .unset] []))
              refine own_stW (fun tt zk => XS.iload X152.here hx rfl (hb hby at_162) rfl zk) ?_
              show OGoW p e below s room_1 Z _ (OLawQ n0) (T152.setTop (mkF m 164 #[.val (.int q1), .val (.int q2), .val (.int q3), .val (.int q4), .val (.int len), .val (.int ca), .val (.int cb), .val (.int cc), .val (.ref sx), .unset] [(.int cb)]))
              by_cases h_cb : own_okb cb = true
              · obtain ⟨T154, X154, e154, st154⟩ := own_callSP X152 hx hZ (y := (⟨"com/example/plain_keys/plainkeys/server/HttpGrammarIsFieldValuePinLaw", "ok", "(C)Z"⟩ : MethodName)) (W := 0) hown (hw _ (List.mem_of_getElem? (i := 47) rfl)) (hw _ (List.mem_of_getElem? (i := 48) rfl)) (hw _ (List.mem_of_getElem? (i := 49) rfl)) (hw _ (List.mem_of_getElem? (i := 50) rfl)) (by decide) (ro l Z a0 hw cb 1 T151.heap (own_obt h_cb)) (by decide) (by decide) (g := (mkF m 164 #[.val (.int q1), .val (.int q2), .val (.int q3), .val (.int q4), .val (.int len), .val (.int ca), .val (.int cb), .val (.int cc), .val (.ref sx), .unset] [(.int cb)])) rfl (by rw [hml]; rfl) (argsL := [(.int cb)]) (rest := []) (lenOf pd_18 rfl) rfl (by show 2 * 0 + _ ≤ _; exact Nat.le_of_eq rfl) (hb hby at_164) rfl e152 (by decide) (by decide)
                refine own_stW st154 ?_
                show OGoW p e below s room_1 Z _ (OLawQ n0) (T154.setTop (mkF m 167 #[.val (.int q1), .val (.int q2), .val (.int q3), .val (.int q4), .val (.int len), .val (.int ca), .val (.int cb), .val (.int cc), .val (.ref sx), .unset] [(.int (1 : Int32))]))
                refine own_stW (fun tt zk => XS.ifNo X154.here hx rfl (hb hby at_167) rfl ((if0 _ _).trans (feq ((by decide : ¬ (1 : Int32) = (0 : Int32)))).1) zk) ?_
                show OGoW p e below s room_1 Z _ (OLawQ n0) (T154.setTop (mkF m 170 #[.val (.int q1), .val (.int q2), .val (.int q3), .val (.int q4), .val (.int len), .val (.int ca), .val (.int cb), .val (.int cc), .val (.ref sx), .unset] []))
                refine own_stW (fun tt zk => XS.iload X154.here hx rfl (hb hby at_170) rfl zk) ?_
                show OGoW p e below s room_1 Z _ (OLawQ n0) (T154.setTop (mkF m 172 #[.val (.int q1), .val (.int q2), .val (.int q3), .val (.int q4), .val (.int len), .val (.int ca), .val (.int cb), .val (.int cc), .val (.ref sx), .unset] [(.int cc)]))
                by_cases h_cc : own_okb cc = true
                · obtain ⟨T156, X156, e156, st156⟩ := own_callSP X154 hx hZ (y := (⟨"com/example/plain_keys/plainkeys/server/HttpGrammarIsFieldValuePinLaw", "ok", "(C)Z"⟩ : MethodName)) (W := 0) hown (hw _ (List.mem_of_getElem? (i := 47) rfl)) (hw _ (List.mem_of_getElem? (i := 48) rfl)) (hw _ (List.mem_of_getElem? (i := 49) rfl)) (hw _ (List.mem_of_getElem? (i := 50) rfl)) (by decide) (ro l Z a0 hw cc 1 T151.heap (own_obt h_cc)) (by decide) (by decide) (g := (mkF m 172 #[.val (.int q1), .val (.int q2), .val (.int q3), .val (.int q4), .val (.int len), .val (.int ca), .val (.int cb), .val (.int cc), .val (.ref sx), .unset] [(.int cc)])) rfl (by rw [hml]; rfl) (argsL := [(.int cc)]) (rest := []) (lenOf pd_18 rfl) rfl (by show 2 * 0 + _ ≤ _; exact Nat.le_of_eq rfl) (hb hby at_172) rfl e154 (by decide) (by decide)
                  refine own_stW st156 ?_
                  show OGoW p e below s room_1 Z _ (OLawQ n0) (T156.setTop (mkF m 175 #[.val (.int q1), .val (.int q2), .val (.int q3), .val (.int q4), .val (.int len), .val (.int ca), .val (.int cb), .val (.int cc), .val (.ref sx), .unset] [(.int (1 : Int32))]))
                  refine own_stW (fun tt zk => XS.ifNo X156.here hx rfl (hb hby at_175) rfl ((if0 _ _).trans (feq ((by decide : ¬ (1 : Int32) = (0 : Int32)))).1) zk) ?_
                  show OGoW p e below s room_1 Z _ (OLawQ n0) (T156.setTop (mkF m 178 #[.val (.int q1), .val (.int q2), .val (.int q3), .val (.int q4), .val (.int len), .val (.int ca), .val (.int cb), .val (.int cc), .val (.ref sx), .unset] []))
                  refine own_stW (fun tt zk => XS.iconst X156.here hx rfl (hb hby at_178) zk) ?_
                  show OGoW p e below s room_1 Z _ (OLawQ n0) (T156.setTop (mkF m 179 #[.val (.int q1), .val (.int q2), .val (.int q3), .val (.int q4), .val (.int len), .val (.int ca), .val (.int cb), .val (.int cc), .val (.ref sx), .unset] [(.int (1 : Int32))]))
                  refine own_stW (fun tt zk => XS.goto X156.here hx rfl (pc0 := 179) (pc' := 183) rfl (hb hby at_179) (by decide) (by decide) zk) ?_
                  show OGoW p e below s room_1 Z _ (OLawQ n0) (T156.setTop (mkF m 183 #[.val (.int q1), .val (.int q2), .val (.int q3), .val (.int q4), .val (.int len), .val (.int ca), .val (.int cb), .val (.int cc), .val (.ref sx), .unset] [(.int (1 : Int32))]))
                  refine own_stW (fun tt zk => XS.istore X156.here hx rfl (hb hby at_183) rfl (l' := #[.val (.int q1), .val (.int q2), .val (.int q3), .val (.int q4), .val (.int len), .val (.int ca), .val (.int cb), .val (.int cc), .val (.ref sx), .val (.int (1 : Int32))]) rfl zk) ?_
                  show OGoW p e below s room_1 Z _ (OLawQ n0) (T156.setTop (mkF m 185 #[.val (.int q1), .val (.int q2), .val (.int q3), .val (.int q4), .val (.int len), .val (.int ca), .val (.int cb), .val (.int cc), .val (.ref sx), .val (.int (1 : Int32))] []))
                  refine own_stW (fun tt zk => XS.aload X156.here hx rfl (hb hby at_185) rfl rfl zk) ?_
                  show OGoW p e below s room_1 Z _ (OLawQ n0) (T156.setTop (mkF m 187 #[.val (.int q1), .val (.int q2), .val (.int q3), .val (.int q4), .val (.int len), .val (.int ca), .val (.int cb), .val (.int cc), .val (.ref sx), .val (.int (1 : Int32))] [(.ref sx)]))
                  obtain ⟨T158, X158, e158, st158⟩ := own_callSP X156 hx hZ (y := (⟨"com/example/plain_keys/plainkeys/server/HttpGrammar", "isFieldValue", "(Ljava/lang/String;)Z"⟩ : MethodName)) (W := 0) hown (hw _ (List.mem_of_getElem? (i := 22) rfl)) (hw _ (List.mem_of_getElem? (i := 23) rfl)) (hw _ (List.mem_of_getElem? (i := 24) rfl)) (hw _ (List.mem_of_getElem? (i := 25) rfl)) (by decide) (riU l Z a0 hw sx t1 3 (own_c3 ca cb cc) cs fm (1 : Int32) T151.heap E_sx F_coder_sx F_value_sx A_t1 S_COMPACT_STRINGS S_SIOOBE_FORMATTER S__assertionsDisabled S_HI_BYTE_SHIFT S_LO_BYTE_SHIFT hcs cat_fm ir_fm (by decide) (own_bd bd_ca bd_cb bd_cc 3) (by simp [own_from, own_c3, own_c0, OB, hl0, hl1, hl2, h_ca, h_cb, h_cc])) (by decide) (by decide) (g := (mkF m 187 #[.val (.int q1), .val (.int q2), .val (.int q3), .val (.int q4), .val (.int len), .val (.int ca), .val (.int cb), .val (.int cc), .val (.ref sx), .val (.int (1 : Int32))] [(.ref sx)])) rfl (by rw [hml]; rfl) (argsL := [(.ref sx)]) (rest := []) (lenOf pd_17 rfl) rfl (by show 2 * 0 + _ ≤ _; exact Nat.le_of_eq rfl) (hb hby at_187) rfl e156 (by decide) (by decide)
                  refine own_stW st158 ?_
                  show OGoW p e below s room_1 Z _ (OLawQ n0) (T158.setTop (mkF m 190 #[.val (.int q1), .val (.int q2), .val (.int q3), .val (.int q4), .val (.int len), .val (.int ca), .val (.int cb), .val (.int cc), .val (.ref sx), .val (.int (1 : Int32))] [(.int (1 : Int32))]))
                  refine own_stW (fun tt zk => XS.iload X158.here hx rfl (hb hby at_190) rfl zk) ?_
                  show OGoW p e below s room_1 Z _ (OLawQ n0) (T158.setTop (mkF m 192 #[.val (.int q1), .val (.int q2), .val (.int q3), .val (.int q4), .val (.int len), .val (.int ca), .val (.int cb), .val (.int cc), .val (.ref sx), .val (.int (1 : Int32))] [(.int (1 : Int32)), (.int (1 : Int32))]))
                  refine own_stW (fun tt zk => XS.icmpNo X158.here hx rfl (hb hby at_192) rfl (teq (rfl)).2 zk) ?_
                  show OGoW p e below s room_1 Z _ (OLawQ n0) (T158.setTop (mkF m 195 #[.val (.int q1), .val (.int q2), .val (.int q3), .val (.int q4), .val (.int len), .val (.int ca), .val (.int cb), .val (.int cc), .val (.ref sx), .val (.int (1 : Int32))] []))
                  refine own_stW (fun tt zk => XS.iconst X158.here hx rfl (hb hby at_195) zk) ?_
                  show OGoW p e below s room_1 Z _ (OLawQ n0) (T158.setTop (mkF m 196 #[.val (.int q1), .val (.int q2), .val (.int q3), .val (.int q4), .val (.int len), .val (.int ca), .val (.int cb), .val (.int cc), .val (.ref sx), .val (.int (1 : Int32))] [(.int (1 : Int32))]))
                  refine own_stW (fun tt zk => XS.goto X158.here hx rfl (pc0 := 196) (pc' := 200) rfl (hb hby at_196) (by decide) (by decide) zk) ?_
                  show OGoW p e below s room_1 Z _ (OLawQ n0) (T158.setTop (mkF m 200 #[.val (.int q1), .val (.int q2), .val (.int q3), .val (.int q4), .val (.int len), .val (.int ca), .val (.int cb), .val (.int cc), .val (.ref sx), .val (.int (1 : Int32))] [(.int (1 : Int32))]))
                  exact own_retWN X158 hx hlk (t := .boolean) hret (by simp) (hb hby at_200) (by decide) (by decide) hS e158 es hk hZ hEL CH (⟨rfl, Nr151⟩)
                · obtain ⟨T157, X157, e157, st157⟩ := own_callSP X154 hx hZ (y := (⟨"com/example/plain_keys/plainkeys/server/HttpGrammarIsFieldValuePinLaw", "ok", "(C)Z"⟩ : MethodName)) (W := 0) hown (hw _ (List.mem_of_getElem? (i := 47) rfl)) (hw _ (List.mem_of_getElem? (i := 48) rfl)) (hw _ (List.mem_of_getElem? (i := 49) rfl)) (hw _ (List.mem_of_getElem? (i := 50) rfl)) (by decide) (ro l Z a0 hw cc 0 T151.heap (own_obf h_cc)) (by decide) (by decide) (g := (mkF m 172 #[.val (.int q1), .val (.int q2), .val (.int q3), .val (.int q4), .val (.int len), .val (.int ca), .val (.int cb), .val (.int cc), .val (.ref sx), .unset] [(.int cc)])) rfl (by rw [hml]; rfl) (argsL := [(.int cc)]) (rest := []) (lenOf pd_18 rfl) rfl (by show 2 * 0 + _ ≤ _; exact Nat.le_of_eq rfl) (hb hby at_172) rfl e154 (by decide) (by decide)
                  refine own_stW st157 ?_
                  show OGoW p e below s room_1 Z _ (OLawQ n0) (T157.setTop (mkF m 175 #[.val (.int q1), .val (.int q2), .val (.int q3), .val (.int q4), .val (.int len), .val (.int ca), .val (.int cb), .val (.int cc), .val (.ref sx), .unset] [(.int (0 : Int32))]))
                  refine own_stW (fun tt zk => XS.ifYes X157.here hx rfl (pc0 := 175) (pc' := 182) rfl (hb hby at_175) rfl ((if0 _ _).trans (teq ((by decide : (0 : Int32) = (0 : Int32)))).1) (by decide) (by decide) zk) ?_
                  show OGoW p e below s room_1 Z _ (OLawQ n0) (T157.setTop (mkF m 182 #[.val (.int q1), .val (.int q2), .val (.int q3), .val (.int q4), .val (.int len), .val (.int ca), .val (.int cb), .val (.int cc), .val (.ref sx), .unset] []))
                  refine own_stW (fun tt zk => XS.iconst X157.here hx rfl (hb hby at_182) zk) ?_
                  show OGoW p e below s room_1 Z _ (OLawQ n0) (T157.setTop (mkF m 183 #[.val (.int q1), .val (.int q2), .val (.int q3), .val (.int q4), .val (.int len), .val (.int ca), .val (.int cb), .val (.int cc), .val (.ref sx), .unset] [(.int (0 : Int32))]))
                  refine own_stW (fun tt zk => XS.istore X157.here hx rfl (hb hby at_183) rfl (l' := #[.val (.int q1), .val (.int q2), .val (.int q3), .val (.int q4), .val (.int len), .val (.int ca), .val (.int cb), .val (.int cc), .val (.ref sx), .val (.int (0 : Int32))]) rfl zk) ?_
                  show OGoW p e below s room_1 Z _ (OLawQ n0) (T157.setTop (mkF m 185 #[.val (.int q1), .val (.int q2), .val (.int q3), .val (.int q4), .val (.int len), .val (.int ca), .val (.int cb), .val (.int cc), .val (.ref sx), .val (.int (0 : Int32))] []))
                  refine own_stW (fun tt zk => XS.aload X157.here hx rfl (hb hby at_185) rfl rfl zk) ?_
                  show OGoW p e below s room_1 Z _ (OLawQ n0) (T157.setTop (mkF m 187 #[.val (.int q1), .val (.int q2), .val (.int q3), .val (.int q4), .val (.int len), .val (.int ca), .val (.int cb), .val (.int cc), .val (.ref sx), .val (.int (0 : Int32))] [(.ref sx)]))
                  obtain ⟨T159, X159, e159, st159⟩ := own_callSP X157 hx hZ (y := (⟨"com/example/plain_keys/plainkeys/server/HttpGrammar", "isFieldValue", "(Ljava/lang/String;)Z"⟩ : MethodName)) (W := 0) hown (hw _ (List.mem_of_getElem? (i := 22) rfl)) (hw _ (List.mem_of_getElem? (i := 23) rfl)) (hw _ (List.mem_of_getElem? (i := 24) rfl)) (hw _ (List.mem_of_getElem? (i := 25) rfl)) (by decide) (riU l Z a0 hw sx t1 3 (own_c3 ca cb cc) cs fm (0 : Int32) T151.heap E_sx F_coder_sx F_value_sx A_t1 S_COMPACT_STRINGS S_SIOOBE_FORMATTER S__assertionsDisabled S_HI_BYTE_SHIFT S_LO_BYTE_SHIFT hcs cat_fm ir_fm (by decide) (own_bd bd_ca bd_cb bd_cc 3) (by simp [own_from, own_c3, own_c0, OB, hl0, hl1, hl2, h_ca, h_cb, h_cc])) (by decide) (by decide) (g := (mkF m 187 #[.val (.int q1), .val (.int q2), .val (.int q3), .val (.int q4), .val (.int len), .val (.int ca), .val (.int cb), .val (.int cc), .val (.ref sx), .val (.int (0 : Int32))] [(.ref sx)])) rfl (by rw [hml]; rfl) (argsL := [(.ref sx)]) (rest := []) (lenOf pd_17 rfl) rfl (by show 2 * 0 + _ ≤ _; exact Nat.le_of_eq rfl) (hb hby at_187) rfl e157 (by decide) (by decide)
                  refine own_stW st159 ?_
                  show OGoW p e below s room_1 Z _ (OLawQ n0) (T159.setTop (mkF m 190 #[.val (.int q1), .val (.int q2), .val (.int q3), .val (.int q4), .val (.int len), .val (.int ca), .val (.int cb), .val (.int cc), .val (.ref sx), .val (.int (0 : Int32))] [(.int (0 : Int32))]))
                  refine own_stW (fun tt zk => XS.iload X159.here hx rfl (hb hby at_190) rfl zk) ?_
                  show OGoW p e below s room_1 Z _ (OLawQ n0) (T159.setTop (mkF m 192 #[.val (.int q1), .val (.int q2), .val (.int q3), .val (.int q4), .val (.int len), .val (.int ca), .val (.int cb), .val (.int cc), .val (.ref sx), .val (.int (0 : Int32))] [(.int (0 : Int32)), (.int (0 : Int32))]))
                  refine own_stW (fun tt zk => XS.icmpNo X159.here hx rfl (hb hby at_192) rfl (teq (rfl)).2 zk) ?_
                  show OGoW p e below s room_1 Z _ (OLawQ n0) (T159.setTop (mkF m 195 #[.val (.int q1), .val (.int q2), .val (.int q3), .val (.int q4), .val (.int len), .val (.int ca), .val (.int cb), .val (.int cc), .val (.ref sx), .val (.int (0 : Int32))] []))
                  refine own_stW (fun tt zk => XS.iconst X159.here hx rfl (hb hby at_195) zk) ?_
                  show OGoW p e below s room_1 Z _ (OLawQ n0) (T159.setTop (mkF m 196 #[.val (.int q1), .val (.int q2), .val (.int q3), .val (.int q4), .val (.int len), .val (.int ca), .val (.int cb), .val (.int cc), .val (.ref sx), .val (.int (0 : Int32))] [(.int (1 : Int32))]))
                  refine own_stW (fun tt zk => XS.goto X159.here hx rfl (pc0 := 196) (pc' := 200) rfl (hb hby at_196) (by decide) (by decide) zk) ?_
                  show OGoW p e below s room_1 Z _ (OLawQ n0) (T159.setTop (mkF m 200 #[.val (.int q1), .val (.int q2), .val (.int q3), .val (.int q4), .val (.int len), .val (.int ca), .val (.int cb), .val (.int cc), .val (.ref sx), .val (.int (0 : Int32))] [(.int (1 : Int32))]))
                  exact own_retWN X159 hx hlk (t := .boolean) hret (by simp) (hb hby at_200) (by decide) (by decide) hS e159 es hk hZ hEL CH (⟨rfl, Nr151⟩)
              · obtain ⟨T155, X155, e155, st155⟩ := own_callSP X152 hx hZ (y := (⟨"com/example/plain_keys/plainkeys/server/HttpGrammarIsFieldValuePinLaw", "ok", "(C)Z"⟩ : MethodName)) (W := 0) hown (hw _ (List.mem_of_getElem? (i := 47) rfl)) (hw _ (List.mem_of_getElem? (i := 48) rfl)) (hw _ (List.mem_of_getElem? (i := 49) rfl)) (hw _ (List.mem_of_getElem? (i := 50) rfl)) (by decide) (ro l Z a0 hw cb 0 T151.heap (own_obf h_cb)) (by decide) (by decide) (g := (mkF m 164 #[.val (.int q1), .val (.int q2), .val (.int q3), .val (.int q4), .val (.int len), .val (.int ca), .val (.int cb), .val (.int cc), .val (.ref sx), .unset] [(.int cb)])) rfl (by rw [hml]; rfl) (argsL := [(.int cb)]) (rest := []) (lenOf pd_18 rfl) rfl (by show 2 * 0 + _ ≤ _; exact Nat.le_of_eq rfl) (hb hby at_164) rfl e152 (by decide) (by decide)
                refine own_stW st155 ?_
                show OGoW p e below s room_1 Z _ (OLawQ n0) (T155.setTop (mkF m 167 #[.val (.int q1), .val (.int q2), .val (.int q3), .val (.int q4), .val (.int len), .val (.int ca), .val (.int cb), .val (.int cc), .val (.ref sx), .unset] [(.int (0 : Int32))]))
                refine own_stW (fun tt zk => XS.ifYes X155.here hx rfl (pc0 := 167) (pc' := 182) rfl (hb hby at_167) rfl ((if0 _ _).trans (teq ((by decide : (0 : Int32) = (0 : Int32)))).1) (by decide) (by decide) zk) ?_
                show OGoW p e below s room_1 Z _ (OLawQ n0) (T155.setTop (mkF m 182 #[.val (.int q1), .val (.int q2), .val (.int q3), .val (.int q4), .val (.int len), .val (.int ca), .val (.int cb), .val (.int cc), .val (.ref sx), .unset] []))
                refine own_stW (fun tt zk => XS.iconst X155.here hx rfl (hb hby at_182) zk) ?_
                show OGoW p e below s room_1 Z _ (OLawQ n0) (T155.setTop (mkF m 183 #[.val (.int q1), .val (.int q2), .val (.int q3), .val (.int q4), .val (.int len), .val (.int ca), .val (.int cb), .val (.int cc), .val (.ref sx), .unset] [(.int (0 : Int32))]))
                refine own_stW (fun tt zk => XS.istore X155.here hx rfl (hb hby at_183) rfl (l' := #[.val (.int q1), .val (.int q2), .val (.int q3), .val (.int q4), .val (.int len), .val (.int ca), .val (.int cb), .val (.int cc), .val (.ref sx), .val (.int (0 : Int32))]) rfl zk) ?_
                show OGoW p e below s room_1 Z _ (OLawQ n0) (T155.setTop (mkF m 185 #[.val (.int q1), .val (.int q2), .val (.int q3), .val (.int q4), .val (.int len), .val (.int ca), .val (.int cb), .val (.int cc), .val (.ref sx), .val (.int (0 : Int32))] []))
                refine own_stW (fun tt zk => XS.aload X155.here hx rfl (hb hby at_185) rfl rfl zk) ?_
                show OGoW p e below s room_1 Z _ (OLawQ n0) (T155.setTop (mkF m 187 #[.val (.int q1), .val (.int q2), .val (.int q3), .val (.int q4), .val (.int len), .val (.int ca), .val (.int cb), .val (.int cc), .val (.ref sx), .val (.int (0 : Int32))] [(.ref sx)]))
                obtain ⟨T160, X160, e160, st160⟩ := own_callSP X155 hx hZ (y := (⟨"com/example/plain_keys/plainkeys/server/HttpGrammar", "isFieldValue", "(Ljava/lang/String;)Z"⟩ : MethodName)) (W := 0) hown (hw _ (List.mem_of_getElem? (i := 22) rfl)) (hw _ (List.mem_of_getElem? (i := 23) rfl)) (hw _ (List.mem_of_getElem? (i := 24) rfl)) (hw _ (List.mem_of_getElem? (i := 25) rfl)) (by decide) (riU l Z a0 hw sx t1 3 (own_c3 ca cb cc) cs fm (0 : Int32) T151.heap E_sx F_coder_sx F_value_sx A_t1 S_COMPACT_STRINGS S_SIOOBE_FORMATTER S__assertionsDisabled S_HI_BYTE_SHIFT S_LO_BYTE_SHIFT hcs cat_fm ir_fm (by decide) (own_bd bd_ca bd_cb bd_cc 3) (by simp [own_from, own_c3, own_c0, OB, hl0, hl1, hl2, h_ca, h_cb])) (by decide) (by decide) (g := (mkF m 187 #[.val (.int q1), .val (.int q2), .val (.int q3), .val (.int q4), .val (.int len), .val (.int ca), .val (.int cb), .val (.int cc), .val (.ref sx), .val (.int (0 : Int32))] [(.ref sx)])) rfl (by rw [hml]; rfl) (argsL := [(.ref sx)]) (rest := []) (lenOf pd_17 rfl) rfl (by show 2 * 0 + _ ≤ _; exact Nat.le_of_eq rfl) (hb hby at_187) rfl e155 (by decide) (by decide)
                refine own_stW st160 ?_
                show OGoW p e below s room_1 Z _ (OLawQ n0) (T160.setTop (mkF m 190 #[.val (.int q1), .val (.int q2), .val (.int q3), .val (.int q4), .val (.int len), .val (.int ca), .val (.int cb), .val (.int cc), .val (.ref sx), .val (.int (0 : Int32))] [(.int (0 : Int32))]))
                refine own_stW (fun tt zk => XS.iload X160.here hx rfl (hb hby at_190) rfl zk) ?_
                show OGoW p e below s room_1 Z _ (OLawQ n0) (T160.setTop (mkF m 192 #[.val (.int q1), .val (.int q2), .val (.int q3), .val (.int q4), .val (.int len), .val (.int ca), .val (.int cb), .val (.int cc), .val (.ref sx), .val (.int (0 : Int32))] [(.int (0 : Int32)), (.int (0 : Int32))]))
                refine own_stW (fun tt zk => XS.icmpNo X160.here hx rfl (hb hby at_192) rfl (teq (rfl)).2 zk) ?_
                show OGoW p e below s room_1 Z _ (OLawQ n0) (T160.setTop (mkF m 195 #[.val (.int q1), .val (.int q2), .val (.int q3), .val (.int q4), .val (.int len), .val (.int ca), .val (.int cb), .val (.int cc), .val (.ref sx), .val (.int (0 : Int32))] []))
                refine own_stW (fun tt zk => XS.iconst X160.here hx rfl (hb hby at_195) zk) ?_
                show OGoW p e below s room_1 Z _ (OLawQ n0) (T160.setTop (mkF m 196 #[.val (.int q1), .val (.int q2), .val (.int q3), .val (.int q4), .val (.int len), .val (.int ca), .val (.int cb), .val (.int cc), .val (.ref sx), .val (.int (0 : Int32))] [(.int (1 : Int32))]))
                refine own_stW (fun tt zk => XS.goto X160.here hx rfl (pc0 := 196) (pc' := 200) rfl (hb hby at_196) (by decide) (by decide) zk) ?_
                show OGoW p e below s room_1 Z _ (OLawQ n0) (T160.setTop (mkF m 200 #[.val (.int q1), .val (.int q2), .val (.int q3), .val (.int q4), .val (.int len), .val (.int ca), .val (.int cb), .val (.int cc), .val (.ref sx), .val (.int (0 : Int32))] [(.int (1 : Int32))]))
                exact own_retWN X160 hx hlk (t := .boolean) hret (by simp) (hb hby at_200) (by decide) (by decide) hS e160 es hk hZ hEL CH (⟨rfl, Nr151⟩)
            · obtain ⟨T153, X153, e153, st153⟩ := own_callSP X151 hx hZ (y := (⟨"com/example/plain_keys/plainkeys/server/HttpGrammarIsFieldValuePinLaw", "ok", "(C)Z"⟩ : MethodName)) (W := 0) hown (hw _ (List.mem_of_getElem? (i := 47) rfl)) (hw _ (List.mem_of_getElem? (i := 48) rfl)) (hw _ (List.mem_of_getElem? (i := 49) rfl)) (hw _ (List.mem_of_getElem? (i := 50) rfl)) (by decide) (ro l Z a0 hw ca 0 T151.heap (own_obf h_ca)) (by decide) (by decide) (g := (mkF m 156 #[.val (.int q1), .val (.int q2), .val (.int q3), .val (.int q4), .val (.int len), .val (.int ca), .val (.int cb), .val (.int cc), .val (.ref sx), .unset] [(.int ca)])) rfl (by rw [hml]; rfl) (argsL := [(.int ca)]) (rest := []) (lenOf pd_18 rfl) rfl (by show 2 * 0 + _ ≤ _; exact Nat.le_of_eq rfl) (hb hby at_156) rfl rfl (by decide) (by decide)
              refine own_stW st153 ?_
              show OGoW p e below s room_1 Z _ (OLawQ n0) (T153.setTop (mkF m 159 #[.val (.int q1), .val (.int q2), .val (.int q3), .val (.int q4), .val (.int len), .val (.int ca), .val (.int cb), .val (.int cc), .val (.ref sx), .unset] [(.int (0 : Int32))]))
              refine own_stW (fun tt zk => XS.ifYes X153.here hx rfl (pc0 := 159) (pc' := 182) rfl (hb hby at_159) rfl ((if0 _ _).trans (teq ((by decide : (0 : Int32) = (0 : Int32)))).1) (by decide) (by decide) zk) ?_
              show OGoW p e below s room_1 Z _ (OLawQ n0) (T153.setTop (mkF m 182 #[.val (.int q1), .val (.int q2), .val (.int q3), .val (.int q4), .val (.int len), .val (.int ca), .val (.int cb), .val (.int cc), .val (.ref sx), .unset] []))
              refine own_stW (fun tt zk => XS.iconst X153.here hx rfl (hb hby at_182) zk) ?_
              show OGoW p e below s room_1 Z _ (OLawQ n0) (T153.setTop (mkF m 183 #[.val (.int q1), .val (.int q2), .val (.int q3), .val (.int q4), .val (.int len), .val (.int ca), .val (.int cb), .val (.int cc), .val (.ref sx), .unset] [(.int (0 : Int32))]))
              refine own_stW (fun tt zk => XS.istore X153.here hx rfl (hb hby at_183) rfl (l' := #[.val (.int q1), .val (.int q2), .val (.int q3), .val (.int q4), .val (.int len), .val (.int ca), .val (.int cb), .val (.int cc), .val (.ref sx), .val (.int (0 : Int32))]) rfl zk) ?_
              show OGoW p e below s room_1 Z _ (OLawQ n0) (T153.setTop (mkF m 185 #[.val (.int q1), .val (.int q2), .val (.int q3), .val (.int q4), .val (.int len), .val (.int ca), .val (.int cb), .val (.int cc), .val (.ref sx), .val (.int (0 : Int32))] []))
              refine own_stW (fun tt zk => XS.aload X153.here hx rfl (hb hby at_185) rfl rfl zk) ?_
              show OGoW p e below s room_1 Z _ (OLawQ n0) (T153.setTop (mkF m 187 #[.val (.int q1), .val (.int q2), .val (.int q3), .val (.int q4), .val (.int len), .val (.int ca), .val (.int cb), .val (.int cc), .val (.ref sx), .val (.int (0 : Int32))] [(.ref sx)]))
              obtain ⟨T161, X161, e161, st161⟩ := own_callSP X153 hx hZ (y := (⟨"com/example/plain_keys/plainkeys/server/HttpGrammar", "isFieldValue", "(Ljava/lang/String;)Z"⟩ : MethodName)) (W := 0) hown (hw _ (List.mem_of_getElem? (i := 22) rfl)) (hw _ (List.mem_of_getElem? (i := 23) rfl)) (hw _ (List.mem_of_getElem? (i := 24) rfl)) (hw _ (List.mem_of_getElem? (i := 25) rfl)) (by decide) (riU l Z a0 hw sx t1 3 (own_c3 ca cb cc) cs fm (0 : Int32) T151.heap E_sx F_coder_sx F_value_sx A_t1 S_COMPACT_STRINGS S_SIOOBE_FORMATTER S__assertionsDisabled S_HI_BYTE_SHIFT S_LO_BYTE_SHIFT hcs cat_fm ir_fm (by decide) (own_bd bd_ca bd_cb bd_cc 3) (by simp [own_from, own_c3, own_c0, OB, hl0, hl1, hl2, h_ca])) (by decide) (by decide) (g := (mkF m 187 #[.val (.int q1), .val (.int q2), .val (.int q3), .val (.int q4), .val (.int len), .val (.int ca), .val (.int cb), .val (.int cc), .val (.ref sx), .val (.int (0 : Int32))] [(.ref sx)])) rfl (by rw [hml]; rfl) (argsL := [(.ref sx)]) (rest := []) (lenOf pd_17 rfl) rfl (by show 2 * 0 + _ ≤ _; exact Nat.le_of_eq rfl) (hb hby at_187) rfl e153 (by decide) (by decide)
              refine own_stW st161 ?_
              show OGoW p e below s room_1 Z _ (OLawQ n0) (T161.setTop (mkF m 190 #[.val (.int q1), .val (.int q2), .val (.int q3), .val (.int q4), .val (.int len), .val (.int ca), .val (.int cb), .val (.int cc), .val (.ref sx), .val (.int (0 : Int32))] [(.int (0 : Int32))]))
              refine own_stW (fun tt zk => XS.iload X161.here hx rfl (hb hby at_190) rfl zk) ?_
              show OGoW p e below s room_1 Z _ (OLawQ n0) (T161.setTop (mkF m 192 #[.val (.int q1), .val (.int q2), .val (.int q3), .val (.int q4), .val (.int len), .val (.int ca), .val (.int cb), .val (.int cc), .val (.ref sx), .val (.int (0 : Int32))] [(.int (0 : Int32)), (.int (0 : Int32))]))
              refine own_stW (fun tt zk => XS.icmpNo X161.here hx rfl (hb hby at_192) rfl (teq (rfl)).2 zk) ?_
              show OGoW p e below s room_1 Z _ (OLawQ n0) (T161.setTop (mkF m 195 #[.val (.int q1), .val (.int q2), .val (.int q3), .val (.int q4), .val (.int len), .val (.int ca), .val (.int cb), .val (.int cc), .val (.ref sx), .val (.int (0 : Int32))] []))
              refine own_stW (fun tt zk => XS.iconst X161.here hx rfl (hb hby at_195) zk) ?_
              show OGoW p e below s room_1 Z _ (OLawQ n0) (T161.setTop (mkF m 196 #[.val (.int q1), .val (.int q2), .val (.int q3), .val (.int q4), .val (.int len), .val (.int ca), .val (.int cb), .val (.int cc), .val (.ref sx), .val (.int (0 : Int32))] [(.int (1 : Int32))]))
              refine own_stW (fun tt zk => XS.goto X161.here hx rfl (pc0 := 196) (pc' := 200) rfl (hb hby at_196) (by decide) (by decide) zk) ?_
              show OGoW p e below s room_1 Z _ (OLawQ n0) (T161.setTop (mkF m 200 #[.val (.int q1), .val (.int q2), .val (.int q3), .val (.int q4), .val (.int len), .val (.int ca), .val (.int cb), .val (.int cc), .val (.ref sx), .val (.int (0 : Int32))] [(.int (1 : Int32))]))
              exact own_retWN X161 hx hlk (t := .boolean) hret (by simp) (hb hby at_200) (by decide) (by decide) hS e161 es hk hZ hEL CH (⟨rfl, Nr151⟩)
          · by_cases g_cc : (255 : Int32) < cc
            · obtain ⟨_, T162, Lc162, X162, hQ162, st162⟩ := own_callI X139 hx hZ (y := (⟨"java/lang/String", "<init>", "([C)V"⟩ : MethodName)) (W := 1) rfl hown (hw _ (List.mem_of_getElem? (i := 4) rfl)) (hw _ (List.mem_of_getElem? (i := 5) rfl)) (hw _ (List.mem_of_getElem? (i := 6) rfl)) (hw _ (List.mem_of_getElem? (i := 2) rfl)) (by decide) (su10 l Z a0 hw sx ax 3 2 (own_c3 ca cb cc) cs hp139 n0 Z0 old_sx (Ne.symm ne_sx_ax) E_sx F_coder_sx F_value_sx A_ax S_COMPACT_STRINGS S__assertionsDisabled S_HI_BYTE_SHIFT S_LO_BYTE_SHIFT (by decide) (by decide) (own_le2 g_ca g_cb) g_cc (own_bd bd_ca bd_cb bd_cc 3) hcs) (by decide) (by decide) (a := sx) (g := (mkF m 149 #[.val (.int q1), .val (.int q2), .val (.int q3), .val (.int q4), .val (.int len), .val (.int ca), .val (.int cb), .val (.int cc), .unset, .unset] [(.ref ax), (.ref sx), (.ref sx)])) rfl (by rw [hml]; rfl) (argsL := [(.ref ax)]) (rest := [(.ref sx)]) (lenOf pd_16 rfl) rfl (by show 2 * 0 + _ ≤ _; exact Nat.le_of_eq rfl) (hb hby at_149) rfl e139 (by decide) (by decide)
              obtain ⟨t1, rfl, Nq162, Kq162, fq162_t1, q162_0, q162_1, q162_2, q162_3⟩ := hQ162
              have ne_sx_t1 : sx ≠ t1 := Nat.ne_of_lt (Nat.lt_of_lt_of_le E_sx.lt fq162_t1)
              have ne_ax_t1 : ax ≠ t1 := Nat.ne_of_lt (Nat.lt_of_lt_of_le A_ax.lt fq162_t1)
              have old_t1 : n0 ≤ t1 := Nat.le_trans Z0 fq162_t1
              have hpl_Kq162 : ∀ w ∈ [sx], ∃ c : Cell, hp139[w]? = some c ∧ c.vm.isStatics = false := (allS (own_pl_exa E_sx) all0)
              have Z0 := Nat.le_trans Z0 Kq162.1
              have hk := Nat.le_trans hk Kq162.1
              have CH := CH.trans (CHr.keep Kq162 (allS (own_safe_null hZ.alike E_sx F_value_sx) all0) CH.1)
              have S_COMPACT_STRINGS := own_sta_keep S_COMPACT_STRINGS Kq162 hpl_Kq162
              have S_SIOOBE_FORMATTER := own_sta_keep S_SIOOBE_FORMATTER Kq162 hpl_Kq162
              have S__assertionsDisabled := own_sta_keep S__assertionsDisabled Kq162 hpl_Kq162
              have S_HI_BYTE_SHIFT := own_sta_keep S_HI_BYTE_SHIFT Kq162 hpl_Kq162
              have S_LO_BYTE_SHIFT := own_sta_keep S_LO_BYTE_SHIFT Kq162 hpl_Kq162
              have A_ax := A_ax.keep Kq162 (ninS (Ne.symm ne_sx_ax) nin0)
              have Nr162 := Fr.app Nf139 Nq162
              have E_sx := q162_0
              have F_coder_sx := q162_1
              have F_value_sx := q162_2
              have A_t1 := q162_3
              refine own_stW st162 ?_
              show OGoW p e below s room_1 Z _ (OLawQ n0) (T162.setTop (mkF m 152 #[.val (.int q1), .val (.int q2), .val (.int q3), .val (.int q4), .val (.int len), .val (.int ca), .val (.int cb), .val (.int cc), .unset, .unset] [(.ref sx)]))
              refine own_stW (fun tt zk => XS.astore X162.here hx rfl (hb hby at_152) rfl rfl (l' := #[.val (.int q1), .val (.int q2), .val (.int q3), .val (.int q4), .val (.int len), .val (.int ca), .val (.int cb), .val (.int cc), .val (.ref sx), .unset]) rfl zk) ?_
              show OGoW p e below s room_1 Z _ (OLawQ n0) (T162.setTop (mkF m 154 #[.val (.int q1), .val (.int q2), .val (.int q3), .val (.int q4), .val (.int len), .val (.int ca), .val (.int cb), .val (.int cc), .val (.ref sx), .unset] []))
              refine own_stW (fun tt zk => XS.iload X162.here hx rfl (hb hby at_154) rfl zk) ?_
              show OGoW p e below s room_1 Z _ (OLawQ n0) (T162.setTop (mkF m 156 #[.val (.int q1), .val (.int q2), .val (.int q3), .val (.int q4), .val (.int len), .val (.int ca), .val (.int cb), .val (.int cc), .val (.ref sx), .unset] [(.int ca)]))
              by_cases h_ca : own_okb ca = true
              · obtain ⟨T163, X163, e163, st163⟩ := own_callSP X162 hx hZ (y := (⟨"com/example/plain_keys/plainkeys/server/HttpGrammarIsFieldValuePinLaw", "ok", "(C)Z"⟩ : MethodName)) (W := 0) hown (hw _ (List.mem_of_getElem? (i := 47) rfl)) (hw _ (List.mem_of_getElem? (i := 48) rfl)) (hw _ (List.mem_of_getElem? (i := 49) rfl)) (hw _ (List.mem_of_getElem? (i := 50) rfl)) (by decide) (ro l Z a0 hw ca 1 T162.heap (own_obt h_ca)) (by decide) (by decide) (g := (mkF m 156 #[.val (.int q1), .val (.int q2), .val (.int q3), .val (.int q4), .val (.int len), .val (.int ca), .val (.int cb), .val (.int cc), .val (.ref sx), .unset] [(.int ca)])) rfl (by rw [hml]; rfl) (argsL := [(.int ca)]) (rest := []) (lenOf pd_18 rfl) rfl (by show 2 * 0 + _ ≤ _; exact Nat.le_of_eq rfl) (hb hby at_156) rfl rfl (by decide) (by decide)
                refine own_stW st163 ?_
                show OGoW p e below s room_1 Z _ (OLawQ n0) (T163.setTop (mkF m 159 #[.val (.int q1), .val (.int q2), .val (.int q3), .val (.int q4), .val (.int len), .val (.int ca), .val (.int cb), .val (.int cc), .val (.ref sx), .unset] [(.int (1 : Int32))]))
                refine own_stW (fun tt zk => XS.ifNo X163.here hx rfl (hb hby at_159) rfl ((if0 _ _).trans (feq ((by decide : ¬ (1 : Int32) = (0 : Int32)))).1) zk) ?_
                show OGoW p e below s room_1 Z _ (OLawQ n0) (T163.setTop (mkF m 162 #[.val (.int q1), .val (.int q2), .val (.int q3), .val (.int q4), .val (.int len), .val (.int ca), .val (.int cb), .val (.int cc), .val (.ref sx), .unset] []))
                refine own_stW (fun tt zk => XS.iload X163.here hx rfl (hb hby at_162) rfl zk) ?_
                show OGoW p e below s room_1 Z _ (OLawQ n0) (T163.setTop (mkF m 164 #[.val (.int q1), .val (.int q2), .val (.int q3), .val (.int q4), .val (.int len), .val (.int ca), .val (.int cb), .val (.int cc), .val (.ref sx), .unset] [(.int cb)]))
                by_cases h_cb : own_okb cb = true
                · obtain ⟨T165, X165, e165, st165⟩ := own_callSP X163 hx hZ (y := (⟨"com/example/plain_keys/plainkeys/server/HttpGrammarIsFieldValuePinLaw", "ok", "(C)Z"⟩ : MethodName)) (W := 0) hown (hw _ (List.mem_of_getElem? (i := 47) rfl)) (hw _ (List.mem_of_getElem? (i := 48) rfl)) (hw _ (List.mem_of_getElem? (i := 49) rfl)) (hw _ (List.mem_of_getElem? (i := 50) rfl)) (by decide) (ro l Z a0 hw cb 1 T162.heap (own_obt h_cb)) (by decide) (by decide) (g := (mkF m 164 #[.val (.int q1), .val (.int q2), .val (.int q3), .val (.int q4), .val (.int len), .val (.int ca), .val (.int cb), .val (.int cc), .val (.ref sx), .unset] [(.int cb)])) rfl (by rw [hml]; rfl) (argsL := [(.int cb)]) (rest := []) (lenOf pd_18 rfl) rfl (by show 2 * 0 + _ ≤ _; exact Nat.le_of_eq rfl) (hb hby at_164) rfl e163 (by decide) (by decide)
                  refine own_stW st165 ?_
                  show OGoW p e below s room_1 Z _ (OLawQ n0) (T165.setTop (mkF m 167 #[.val (.int q1), .val (.int q2), .val (.int q3), .val (.int q4), .val (.int len), .val (.int ca), .val (.int cb), .val (.int cc), .val (.ref sx), .unset] [(.int (1 : Int32))]))
                  refine own_stW (fun tt zk => XS.ifNo X165.here hx rfl (hb hby at_167) rfl ((if0 _ _).trans (feq ((by decide : ¬ (1 : Int32) = (0 : Int32)))).1) zk) ?_
                  show OGoW p e below s room_1 Z _ (OLawQ n0) (T165.setTop (mkF m 170 #[.val (.int q1), .val (.int q2), .val (.int q3), .val (.int q4), .val (.int len), .val (.int ca), .val (.int cb), .val (.int cc), .val (.ref sx), .unset] []))
                  refine own_stW (fun tt zk => XS.iload X165.here hx rfl (hb hby at_170) rfl zk) ?_
                  show OGoW p e below s room_1 Z _ (OLawQ n0) (T165.setTop (mkF m 172 #[.val (.int q1), .val (.int q2), .val (.int q3), .val (.int q4), .val (.int len), .val (.int ca), .val (.int cb), .val (.int cc), .val (.ref sx), .unset] [(.int cc)]))
                  by_cases h_cc : own_okb cc = true
                  · obtain ⟨T167, X167, e167, st167⟩ := own_callSP X165 hx hZ (y := (⟨"com/example/plain_keys/plainkeys/server/HttpGrammarIsFieldValuePinLaw", "ok", "(C)Z"⟩ : MethodName)) (W := 0) hown (hw _ (List.mem_of_getElem? (i := 47) rfl)) (hw _ (List.mem_of_getElem? (i := 48) rfl)) (hw _ (List.mem_of_getElem? (i := 49) rfl)) (hw _ (List.mem_of_getElem? (i := 50) rfl)) (by decide) (ro l Z a0 hw cc 1 T162.heap (own_obt h_cc)) (by decide) (by decide) (g := (mkF m 172 #[.val (.int q1), .val (.int q2), .val (.int q3), .val (.int q4), .val (.int len), .val (.int ca), .val (.int cb), .val (.int cc), .val (.ref sx), .unset] [(.int cc)])) rfl (by rw [hml]; rfl) (argsL := [(.int cc)]) (rest := []) (lenOf pd_18 rfl) rfl (by show 2 * 0 + _ ≤ _; exact Nat.le_of_eq rfl) (hb hby at_172) rfl e165 (by decide) (by decide)
                    refine own_stW st167 ?_
                    show OGoW p e below s room_1 Z _ (OLawQ n0) (T167.setTop (mkF m 175 #[.val (.int q1), .val (.int q2), .val (.int q3), .val (.int q4), .val (.int len), .val (.int ca), .val (.int cb), .val (.int cc), .val (.ref sx), .unset] [(.int (1 : Int32))]))
                    refine own_stW (fun tt zk => XS.ifNo X167.here hx rfl (hb hby at_175) rfl ((if0 _ _).trans (feq ((by decide : ¬ (1 : Int32) = (0 : Int32)))).1) zk) ?_
                    show OGoW p e below s room_1 Z _ (OLawQ n0) (T167.setTop (mkF m 178 #[.val (.int q1), .val (.int q2), .val (.int q3), .val (.int q4), .val (.int len), .val (.int ca), .val (.int cb), .val (.int cc), .val (.ref sx), .unset] []))
                    refine own_stW (fun tt zk => XS.iconst X167.here hx rfl (hb hby at_178) zk) ?_
                    show OGoW p e below s room_1 Z _ (OLawQ n0) (T167.setTop (mkF m 179 #[.val (.int q1), .val (.int q2), .val (.int q3), .val (.int q4), .val (.int len), .val (.int ca), .val (.int cb), .val (.int cc), .val (.ref sx), .unset] [(.int (1 : Int32))]))
                    refine own_stW (fun tt zk => XS.goto X167.here hx rfl (pc0 := 179) (pc' := 183) rfl (hb hby at_179) (by decide) (by decide) zk) ?_
                    show OGoW p e below s room_1 Z _ (OLawQ n0) (T167.setTop (mkF m 183 #[.val (.int q1), .val (.int q2), .val (.int q3), .val (.int q4), .val (.int len), .val (.int ca), .val (.int cb), .val (.int cc), .val (.ref sx), .unset] [(.int (1 : Int32))]))
                    refine own_stW (fun tt zk => XS.istore X167.here hx rfl (hb hby at_183) rfl (l' := #[.val (.int q1), .val (.int q2), .val (.int q3), .val (.int q4), .val (.int len), .val (.int ca), .val (.int cb), .val (.int cc), .val (.ref sx), .val (.int (1 : Int32))]) rfl zk) ?_
                    show OGoW p e below s room_1 Z _ (OLawQ n0) (T167.setTop (mkF m 185 #[.val (.int q1), .val (.int q2), .val (.int q3), .val (.int q4), .val (.int len), .val (.int ca), .val (.int cb), .val (.int cc), .val (.ref sx), .val (.int (1 : Int32))] []))
                    refine own_stW (fun tt zk => XS.aload X167.here hx rfl (hb hby at_185) rfl rfl zk) ?_
                    show OGoW p e below s room_1 Z _ (OLawQ n0) (T167.setTop (mkF m 187 #[.val (.int q1), .val (.int q2), .val (.int q3), .val (.int q4), .val (.int len), .val (.int ca), .val (.int cb), .val (.int cc), .val (.ref sx), .val (.int (1 : Int32))] [(.ref sx)]))
                    obtain ⟨T169, X169, e169, st169⟩ := own_callSP X167 hx hZ (y := (⟨"com/example/plain_keys/plainkeys/server/HttpGrammar", "isFieldValue", "(Ljava/lang/String;)Z"⟩ : MethodName)) (W := 0) hown (hw _ (List.mem_of_getElem? (i := 22) rfl)) (hw _ (List.mem_of_getElem? (i := 23) rfl)) (hw _ (List.mem_of_getElem? (i := 24) rfl)) (hw _ (List.mem_of_getElem? (i := 25) rfl)) (by decide) (riU l Z a0 hw sx t1 3 (own_c3 ca cb cc) cs fm (1 : Int32) T162.heap E_sx F_coder_sx F_value_sx A_t1 S_COMPACT_STRINGS S_SIOOBE_FORMATTER S__assertionsDisabled S_HI_BYTE_SHIFT S_LO_BYTE_SHIFT hcs cat_fm ir_fm (by decide) (own_bd bd_ca bd_cb bd_cc 3) (by simp [own_from, own_c3, own_c0, OB, hl0, hl1, hl2, h_ca, h_cb, h_cc])) (by decide) (by decide) (g := (mkF m 187 #[.val (.int q1), .val (.int q2), .val (.int q3), .val (.int q4), .val (.int len), .val (.int ca), .val (.int cb), .val (.int cc), .val (.ref sx), .val (.int (1 : Int32))] [(.ref sx)])) rfl (by rw [hml]; rfl) (argsL := [(.ref sx)]) (rest := []) (lenOf pd_17 rfl) rfl (by show 2 * 0 + _ ≤ _; exact Nat.le_of_eq rfl) (hb hby at_187) rfl e167 (by decide) (by decide)
                    refine own_stW st169 ?_
                    show OGoW p e below s room_1 Z _ (OLawQ n0) (T169.setTop (mkF m 190 #[.val (.int q1), .val (.int q2), .val (.int q3), .val (.int q4), .val (.int len), .val (.int ca), .val (.int cb), .val (.int cc), .val (.ref sx), .val (.int (1 : Int32))] [(.int (1 : Int32))]))
                    refine own_stW (fun tt zk => XS.iload X169.here hx rfl (hb hby at_190) rfl zk) ?_
                    show OGoW p e below s room_1 Z _ (OLawQ n0) (T169.setTop (mkF m 192 #[.val (.int q1), .val (.int q2), .val (.int q3), .val (.int q4), .val (.int len), .val (.int ca), .val (.int cb), .val (.int cc), .val (.ref sx), .val (.int (1 : Int32))] [(.int (1 : Int32)), (.int (1 : Int32))]))
                    refine own_stW (fun tt zk => XS.icmpNo X169.here hx rfl (hb hby at_192) rfl (teq (rfl)).2 zk) ?_
                    show OGoW p e below s room_1 Z _ (OLawQ n0) (T169.setTop (mkF m 195 #[.val (.int q1), .val (.int q2), .val (.int q3), .val (.int q4), .val (.int len), .val (.int ca), .val (.int cb), .val (.int cc), .val (.ref sx), .val (.int (1 : Int32))] []))
                    refine own_stW (fun tt zk => XS.iconst X169.here hx rfl (hb hby at_195) zk) ?_
                    show OGoW p e below s room_1 Z _ (OLawQ n0) (T169.setTop (mkF m 196 #[.val (.int q1), .val (.int q2), .val (.int q3), .val (.int q4), .val (.int len), .val (.int ca), .val (.int cb), .val (.int cc), .val (.ref sx), .val (.int (1 : Int32))] [(.int (1 : Int32))]))
                    refine own_stW (fun tt zk => XS.goto X169.here hx rfl (pc0 := 196) (pc' := 200) rfl (hb hby at_196) (by decide) (by decide) zk) ?_
                    show OGoW p e below s room_1 Z _ (OLawQ n0) (T169.setTop (mkF m 200 #[.val (.int q1), .val (.int q2), .val (.int q3), .val (.int q4), .val (.int len), .val (.int ca), .val (.int cb), .val (.int cc), .val (.ref sx), .val (.int (1 : Int32))] [(.int (1 : Int32))]))
                    exact own_retWN X169 hx hlk (t := .boolean) hret (by simp) (hb hby at_200) (by decide) (by decide) hS e169 es hk hZ hEL CH (⟨rfl, Nr162⟩)
                  · obtain ⟨T168, X168, e168, st168⟩ := own_callSP X165 hx hZ (y := (⟨"com/example/plain_keys/plainkeys/server/HttpGrammarIsFieldValuePinLaw", "ok", "(C)Z"⟩ : MethodName)) (W := 0) hown (hw _ (List.mem_of_getElem? (i := 47) rfl)) (hw _ (List.mem_of_getElem? (i := 48) rfl)) (hw _ (List.mem_of_getElem? (i := 49) rfl)) (hw _ (List.mem_of_getElem? (i := 50) rfl)) (by decide) (ro l Z a0 hw cc 0 T162.heap (own_obf h_cc)) (by decide) (by decide) (g := (mkF m 172 #[.val (.int q1), .val (.int q2), .val (.int q3), .val (.int q4), .val (.int len), .val (.int ca), .val (.int cb), .val (.int cc), .val (.ref sx), .unset] [(.int cc)])) rfl (by rw [hml]; rfl) (argsL := [(.int cc)]) (rest := []) (lenOf pd_18 rfl) rfl (by show 2 * 0 + _ ≤ _; exact Nat.le_of_eq rfl) (hb hby at_172) rfl e165 (by decide) (by decide)
                    refine own_stW st168 ?_
                    show OGoW p e below s room_1 Z _ (OLawQ n0) (T168.setTop (mkF m 175 #[.val (.int q1), .val (.int q2), .val (.int q3), .val (.int q4), .val (.int len), .val (.int ca), .val (.int cb), .val (.int cc), .val (.ref sx), .unset] [(.int (0 : Int32))]))
                    refine own_stW (fun tt zk => XS.ifYes X168.here hx rfl (pc0 := 175) (pc' := 182) rfl (hb hby at_175) rfl ((if0 _ _).trans (teq ((by decide : (0 : Int32) = (0 : Int32)))).1) (by decide) (by decide) zk) ?_
                    show OGoW p e below s room_1 Z _ (OLawQ n0) (T168.setTop (mkF m 182 #[.val (.int q1), .val (.int q2), .val (.int q3), .val (.int q4), .val (.int len), .val (.int ca), .val (.int cb), .val (.int cc), .val (.ref sx), .unset] []))
                    refine own_stW (fun tt zk => XS.iconst X168.here hx rfl (hb hby at_182) zk) ?_
                    show OGoW p e below s room_1 Z _ (OLawQ n0) (T168.setTop (mkF m 183 #[.val (.int q1), .val (.int q2), .val (.int q3), .val (.int q4), .val (.int len), .val (.int ca), .val (.int cb), .val (.int cc), .val (.ref sx), .unset] [(.int (0 : Int32))]))
                    refine own_stW (fun tt zk => XS.istore X168.here hx rfl (hb hby at_183) rfl (l' := #[.val (.int q1), .val (.int q2), .val (.int q3), .val (.int q4), .val (.int len), .val (.int ca), .val (.int cb), .val (.int cc), .val (.ref sx), .val (.int (0 : Int32))]) rfl zk) ?_
                    show OGoW p e below s room_1 Z _ (OLawQ n0) (T168.setTop (mkF m 185 #[.val (.int q1), .val (.int q2), .val (.int q3), .val (.int q4), .val (.int len), .val (.int ca), .val (.int cb), .val (.int cc), .val (.ref sx), .val (.int (0 : Int32))] []))
                    refine own_stW (fun tt zk => XS.aload X168.here hx rfl (hb hby at_185) rfl rfl zk) ?_
                    show OGoW p e below s room_1 Z _ (OLawQ n0) (T168.setTop (mkF m 187 #[.val (.int q1), .val (.int q2), .val (.int q3), .val (.int q4), .val (.int len), .val (.int ca), .val (.int cb), .val (.int cc), .val (.ref sx), .val (.int (0 : Int32))] [(.ref sx)]))
                    obtain ⟨T170, X170, e170, st170⟩ := own_callSP X168 hx hZ (y := (⟨"com/example/plain_keys/plainkeys/server/HttpGrammar", "isFieldValue", "(Ljava/lang/String;)Z"⟩ : MethodName)) (W := 0) hown (hw _ (List.mem_of_getElem? (i := 22) rfl)) (hw _ (List.mem_of_getElem? (i := 23) rfl)) (hw _ (List.mem_of_getElem? (i := 24) rfl)) (hw _ (List.mem_of_getElem? (i := 25) rfl)) (by decide) (riU l Z a0 hw sx t1 3 (own_c3 ca cb cc) cs fm (0 : Int32) T162.heap E_sx F_coder_sx F_value_sx A_t1 S_COMPACT_STRINGS S_SIOOBE_FORMATTER S__assertionsDisabled S_HI_BYTE_SHIFT S_LO_BYTE_SHIFT hcs cat_fm ir_fm (by decide) (own_bd bd_ca bd_cb bd_cc 3) (by simp [own_from, own_c3, own_c0, OB, hl0, hl1, hl2, h_ca, h_cb, h_cc])) (by decide) (by decide) (g := (mkF m 187 #[.val (.int q1), .val (.int q2), .val (.int q3), .val (.int q4), .val (.int len), .val (.int ca), .val (.int cb), .val (.int cc), .val (.ref sx), .val (.int (0 : Int32))] [(.ref sx)])) rfl (by rw [hml]; rfl) (argsL := [(.ref sx)]) (rest := []) (lenOf pd_17 rfl) rfl (by show 2 * 0 + _ ≤ _; exact Nat.le_of_eq rfl) (hb hby at_187) rfl e168 (by decide) (by decide)
                    refine own_stW st170 ?_
                    show OGoW p e below s room_1 Z _ (OLawQ n0) (T170.setTop (mkF m 190 #[.val (.int q1), .val (.int q2), .val (.int q3), .val (.int q4), .val (.int len), .val (.int ca), .val (.int cb), .val (.int cc), .val (.ref sx), .val (.int (0 : Int32))] [(.int (0 : Int32))]))
                    refine own_stW (fun tt zk => XS.iload X170.here hx rfl (hb hby at_190) rfl zk) ?_
                    show OGoW p e below s room_1 Z _ (OLawQ n0) (T170.setTop (mkF m 192 #[.val (.int q1), .val (.int q2), .val (.int q3), .val (.int q4), .val (.int len), .val (.int ca), .val (.int cb), .val (.int cc), .val (.ref sx), .val (.int (0 : Int32))] [(.int (0 : Int32)), (.int (0 : Int32))]))
                    refine own_stW (fun tt zk => XS.icmpNo X170.here hx rfl (hb hby at_192) rfl (teq (rfl)).2 zk) ?_
                    show OGoW p e below s room_1 Z _ (OLawQ n0) (T170.setTop (mkF m 195 #[.val (.int q1), .val (.int q2), .val (.int q3), .val (.int q4), .val (.int len), .val (.int ca), .val (.int cb), .val (.int cc), .val (.ref sx), .val (.int (0 : Int32))] []))
                    refine own_stW (fun tt zk => XS.iconst X170.here hx rfl (hb hby at_195) zk) ?_
                    show OGoW p e below s room_1 Z _ (OLawQ n0) (T170.setTop (mkF m 196 #[.val (.int q1), .val (.int q2), .val (.int q3), .val (.int q4), .val (.int len), .val (.int ca), .val (.int cb), .val (.int cc), .val (.ref sx), .val (.int (0 : Int32))] [(.int (1 : Int32))]))
                    refine own_stW (fun tt zk => XS.goto X170.here hx rfl (pc0 := 196) (pc' := 200) rfl (hb hby at_196) (by decide) (by decide) zk) ?_
                    show OGoW p e below s room_1 Z _ (OLawQ n0) (T170.setTop (mkF m 200 #[.val (.int q1), .val (.int q2), .val (.int q3), .val (.int q4), .val (.int len), .val (.int ca), .val (.int cb), .val (.int cc), .val (.ref sx), .val (.int (0 : Int32))] [(.int (1 : Int32))]))
                    exact own_retWN X170 hx hlk (t := .boolean) hret (by simp) (hb hby at_200) (by decide) (by decide) hS e170 es hk hZ hEL CH (⟨rfl, Nr162⟩)
                · obtain ⟨T166, X166, e166, st166⟩ := own_callSP X163 hx hZ (y := (⟨"com/example/plain_keys/plainkeys/server/HttpGrammarIsFieldValuePinLaw", "ok", "(C)Z"⟩ : MethodName)) (W := 0) hown (hw _ (List.mem_of_getElem? (i := 47) rfl)) (hw _ (List.mem_of_getElem? (i := 48) rfl)) (hw _ (List.mem_of_getElem? (i := 49) rfl)) (hw _ (List.mem_of_getElem? (i := 50) rfl)) (by decide) (ro l Z a0 hw cb 0 T162.heap (own_obf h_cb)) (by decide) (by decide) (g := (mkF m 164 #[.val (.int q1), .val (.int q2), .val (.int q3), .val (.int q4), .val (.int len), .val (.int ca), .val (.int cb), .val (.int cc), .val (.ref sx), .unset] [(.int cb)])) rfl (by rw [hml]; rfl) (argsL := [(.int cb)]) (rest := []) (lenOf pd_18 rfl) rfl (by show 2 * 0 + _ ≤ _; exact Nat.le_of_eq rfl) (hb hby at_164) rfl e163 (by decide) (by decide)
                  refine own_stW st166 ?_
                  show OGoW p e below s room_1 Z _ (OLawQ n0) (T166.setTop (mkF m 167 #[.val (.int q1), .val (.int q2), .val (.int q3), .val (.int q4), .val (.int len), .val (.int ca), .val (.int cb), .val (.int cc), .val (.ref sx), .unset] [(.int (0 : Int32))]))
                  refine own_stW (fun tt zk => XS.ifYes X166.here hx rfl (pc0 := 167) (pc' := 182) rfl (hb hby at_167) rfl ((if0 _ _).trans (teq ((by decide : (0 : Int32) = (0 : Int32)))).1) (by decide) (by decide) zk) ?_
                  show OGoW p e below s room_1 Z _ (OLawQ n0) (T166.setTop (mkF m 182 #[.val (.int q1), .val (.int q2), .val (.int q3), .val (.int q4), .val (.int len), .val (.int ca), .val (.int cb), .val (.int cc), .val (.ref sx), .unset] []))
                  refine own_stW (fun tt zk => XS.iconst X166.here hx rfl (hb hby at_182) zk) ?_
                  show OGoW p e below s room_1 Z _ (OLawQ n0) (T166.setTop (mkF m 183 #[.val (.int q1), .val (.int q2), .val (.int q3), .val (.int q4), .val (.int len), .val (.int ca), .val (.int cb), .val (.int cc), .val (.ref sx), .unset] [(.int (0 : Int32))]))
                  refine own_stW (fun tt zk => XS.istore X166.here hx rfl (hb hby at_183) rfl (l' := #[.val (.int q1), .val (.int q2), .val (.int q3), .val (.int q4), .val (.int len), .val (.int ca), .val (.int cb), .val (.int cc), .val (.ref sx), .val (.int (0 : Int32))]) rfl zk) ?_
                  show OGoW p e below s room_1 Z _ (OLawQ n0) (T166.setTop (mkF m 185 #[.val (.int q1), .val (.int q2), .val (.int q3), .val (.int q4), .val (.int len), .val (.int ca), .val (.int cb), .val (.int cc), .val (.ref sx), .val (.int (0 : Int32))] []))
                  refine own_stW (fun tt zk => XS.aload X166.here hx rfl (hb hby at_185) rfl rfl zk) ?_
                  show OGoW p e below s room_1 Z _ (OLawQ n0) (T166.setTop (mkF m 187 #[.val (.int q1), .val (.int q2), .val (.int q3), .val (.int q4), .val (.int len), .val (.int ca), .val (.int cb), .val (.int cc), .val (.ref sx), .val (.int (0 : Int32))] [(.ref sx)]))
                  obtain ⟨T171, X171, e171, st171⟩ := own_callSP X166 hx hZ (y := (⟨"com/example/plain_keys/plainkeys/server/HttpGrammar", "isFieldValue", "(Ljava/lang/String;)Z"⟩ : MethodName)) (W := 0) hown (hw _ (List.mem_of_getElem? (i := 22) rfl)) (hw _ (List.mem_of_getElem? (i := 23) rfl)) (hw _ (List.mem_of_getElem? (i := 24) rfl)) (hw _ (List.mem_of_getElem? (i := 25) rfl)) (by decide) (riU l Z a0 hw sx t1 3 (own_c3 ca cb cc) cs fm (0 : Int32) T162.heap E_sx F_coder_sx F_value_sx A_t1 S_COMPACT_STRINGS S_SIOOBE_FORMATTER S__assertionsDisabled S_HI_BYTE_SHIFT S_LO_BYTE_SHIFT hcs cat_fm ir_fm (by decide) (own_bd bd_ca bd_cb bd_cc 3) (by simp [own_from, own_c3, own_c0, OB, hl0, hl1, hl2, h_ca, h_cb])) (by decide) (by decide) (g := (mkF m 187 #[.val (.int q1), .val (.int q2), .val (.int q3), .val (.int q4), .val (.int len), .val (.int ca), .val (.int cb), .val (.int cc), .val (.ref sx), .val (.int (0 : Int32))] [(.ref sx)])) rfl (by rw [hml]; rfl) (argsL := [(.ref sx)]) (rest := []) (lenOf pd_17 rfl) rfl (by show 2 * 0 + _ ≤ _; exact Nat.le_of_eq rfl) (hb hby at_187) rfl e166 (by decide) (by decide)
                  refine own_stW st171 ?_
                  show OGoW p e below s room_1 Z _ (OLawQ n0) (T171.setTop (mkF m 190 #[.val (.int q1), .val (.int q2), .val (.int q3), .val (.int q4), .val (.int len), .val (.int ca), .val (.int cb), .val (.int cc), .val (.ref sx), .val (.int (0 : Int32))] [(.int (0 : Int32))]))
                  refine own_stW (fun tt zk => XS.iload X171.here hx rfl (hb hby at_190) rfl zk) ?_
                  show OGoW p e below s room_1 Z _ (OLawQ n0) (T171.setTop (mkF m 192 #[.val (.int q1), .val (.int q2), .val (.int q3), .val (.int q4), .val (.int len), .val (.int ca), .val (.int cb), .val (.int cc), .val (.ref sx), .val (.int (0 : Int32))] [(.int (0 : Int32)), (.int (0 : Int32))]))
                  refine own_stW (fun tt zk => XS.icmpNo X171.here hx rfl (hb hby at_192) rfl (teq (rfl)).2 zk) ?_
                  show OGoW p e below s room_1 Z _ (OLawQ n0) (T171.setTop (mkF m 195 #[.val (.int q1), .val (.int q2), .val (.int q3), .val (.int q4), .val (.int len), .val (.int ca), .val (.int cb), .val (.int cc), .val (.ref sx), .val (.int (0 : Int32))] []))
                  refine own_stW (fun tt zk => XS.iconst X171.here hx rfl (hb hby at_195) zk) ?_
                  show OGoW p e below s room_1 Z _ (OLawQ n0) (T171.setTop (mkF m 196 #[.val (.int q1), .val (.int q2), .val (.int q3), .val (.int q4), .val (.int len), .val (.int ca), .val (.int cb), .val (.int cc), .val (.ref sx), .val (.int (0 : Int32))] [(.int (1 : Int32))]))
                  refine own_stW (fun tt zk => XS.goto X171.here hx rfl (pc0 := 196) (pc' := 200) rfl (hb hby at_196) (by decide) (by decide) zk) ?_
                  show OGoW p e below s room_1 Z _ (OLawQ n0) (T171.setTop (mkF m 200 #[.val (.int q1), .val (.int q2), .val (.int q3), .val (.int q4), .val (.int len), .val (.int ca), .val (.int cb), .val (.int cc), .val (.ref sx), .val (.int (0 : Int32))] [(.int (1 : Int32))]))
                  exact own_retWN X171 hx hlk (t := .boolean) hret (by simp) (hb hby at_200) (by decide) (by decide) hS e171 es hk hZ hEL CH (⟨rfl, Nr162⟩)
              · obtain ⟨T164, X164, e164, st164⟩ := own_callSP X162 hx hZ (y := (⟨"com/example/plain_keys/plainkeys/server/HttpGrammarIsFieldValuePinLaw", "ok", "(C)Z"⟩ : MethodName)) (W := 0) hown (hw _ (List.mem_of_getElem? (i := 47) rfl)) (hw _ (List.mem_of_getElem? (i := 48) rfl)) (hw _ (List.mem_of_getElem? (i := 49) rfl)) (hw _ (List.mem_of_getElem? (i := 50) rfl)) (by decide) (ro l Z a0 hw ca 0 T162.heap (own_obf h_ca)) (by decide) (by decide) (g := (mkF m 156 #[.val (.int q1), .val (.int q2), .val (.int q3), .val (.int q4), .val (.int len), .val (.int ca), .val (.int cb), .val (.int cc), .val (.ref sx), .unset] [(.int ca)])) rfl (by rw [hml]; rfl) (argsL := [(.int ca)]) (rest := []) (lenOf pd_18 rfl) rfl (by show 2 * 0 + _ ≤ _; exact Nat.le_of_eq rfl) (hb hby at_156) rfl rfl (by decide) (by decide)
                refine own_stW st164 ?_
                show OGoW p e below s room_1 Z _ (OLawQ n0) (T164.setTop (mkF m 159 #[.val (.int q1), .val (.int q2), .val (.int q3), .val (.int q4), .val (.int len), .val (.int ca), .val (.int cb), .val (.int cc), .val (.ref sx), .unset] [(.int (0 : Int32))]))
                refine own_stW (fun tt zk => XS.ifYes X164.here hx rfl (pc0 := 159) (pc' := 182) rfl (hb hby at_159) rfl ((if0 _ _).trans (teq ((by decide : (0 : Int32) = (0 : Int32)))).1) (by decide) (by decide) zk) ?_
                show OGoW p e below s room_1 Z _ (OLawQ n0) (T164.setTop (mkF m 182 #[.val (.int q1), .val (.int q2), .val (.int q3), .val (.int q4), .val (.int len), .val (.int ca), .val (.int cb), .val (.int cc), .val (.ref sx), .unset] []))
                refine own_stW (fun tt zk => XS.iconst X164.here hx rfl (hb hby at_182) zk) ?_
                show OGoW p e below s room_1 Z _ (OLawQ n0) (T164.setTop (mkF m 183 #[.val (.int q1), .val (.int q2), .val (.int q3), .val (.int q4), .val (.int len), .val (.int ca), .val (.int cb), .val (.int cc), .val (.ref sx), .unset] [(.int (0 : Int32))]))
                refine own_stW (fun tt zk => XS.istore X164.here hx rfl (hb hby at_183) rfl (l' := #[.val (.int q1), .val (.int q2), .val (.int q3), .val (.int q4), .val (.int len), .val (.int ca), .val (.int cb), .val (.int cc), .val (.ref sx), .val (.int (0 : Int32))]) rfl zk) ?_
                show OGoW p e below s room_1 Z _ (OLawQ n0) (T164.setTop (mkF m 185 #[.val (.int q1), .val (.int q2), .val (.int q3), .val (.int q4), .val (.int len), .val (.int ca), .val (.int cb), .val (.int cc), .val (.ref sx), .val (.int (0 : Int32))] []))
                refine own_stW (fun tt zk => XS.aload X164.here hx rfl (hb hby at_185) rfl rfl zk) ?_
                show OGoW p e below s room_1 Z _ (OLawQ n0) (T164.setTop (mkF m 187 #[.val (.int q1), .val (.int q2), .val (.int q3), .val (.int q4), .val (.int len), .val (.int ca), .val (.int cb), .val (.int cc), .val (.ref sx), .val (.int (0 : Int32))] [(.ref sx)]))
                obtain ⟨T172, X172, e172, st172⟩ := own_callSP X164 hx hZ (y := (⟨"com/example/plain_keys/plainkeys/server/HttpGrammar", "isFieldValue", "(Ljava/lang/String;)Z"⟩ : MethodName)) (W := 0) hown (hw _ (List.mem_of_getElem? (i := 22) rfl)) (hw _ (List.mem_of_getElem? (i := 23) rfl)) (hw _ (List.mem_of_getElem? (i := 24) rfl)) (hw _ (List.mem_of_getElem? (i := 25) rfl)) (by decide) (riU l Z a0 hw sx t1 3 (own_c3 ca cb cc) cs fm (0 : Int32) T162.heap E_sx F_coder_sx F_value_sx A_t1 S_COMPACT_STRINGS S_SIOOBE_FORMATTER S__assertionsDisabled S_HI_BYTE_SHIFT S_LO_BYTE_SHIFT hcs cat_fm ir_fm (by decide) (own_bd bd_ca bd_cb bd_cc 3) (by simp [own_from, own_c3, own_c0, OB, hl0, hl1, hl2, h_ca])) (by decide) (by decide) (g := (mkF m 187 #[.val (.int q1), .val (.int q2), .val (.int q3), .val (.int q4), .val (.int len), .val (.int ca), .val (.int cb), .val (.int cc), .val (.ref sx), .val (.int (0 : Int32))] [(.ref sx)])) rfl (by rw [hml]; rfl) (argsL := [(.ref sx)]) (rest := []) (lenOf pd_17 rfl) rfl (by show 2 * 0 + _ ≤ _; exact Nat.le_of_eq rfl) (hb hby at_187) rfl e164 (by decide) (by decide)
                refine own_stW st172 ?_
                show OGoW p e below s room_1 Z _ (OLawQ n0) (T172.setTop (mkF m 190 #[.val (.int q1), .val (.int q2), .val (.int q3), .val (.int q4), .val (.int len), .val (.int ca), .val (.int cb), .val (.int cc), .val (.ref sx), .val (.int (0 : Int32))] [(.int (0 : Int32))]))
                refine own_stW (fun tt zk => XS.iload X172.here hx rfl (hb hby at_190) rfl zk) ?_
                show OGoW p e below s room_1 Z _ (OLawQ n0) (T172.setTop (mkF m 192 #[.val (.int q1), .val (.int q2), .val (.int q3), .val (.int q4), .val (.int len), .val (.int ca), .val (.int cb), .val (.int cc), .val (.ref sx), .val (.int (0 : Int32))] [(.int (0 : Int32)), (.int (0 : Int32))]))
                refine own_stW (fun tt zk => XS.icmpNo X172.here hx rfl (hb hby at_192) rfl (teq (rfl)).2 zk) ?_
                show OGoW p e below s room_1 Z _ (OLawQ n0) (T172.setTop (mkF m 195 #[.val (.int q1), .val (.int q2), .val (.int q3), .val (.int q4), .val (.int len), .val (.int ca), .val (.int cb), .val (.int cc), .val (.ref sx), .val (.int (0 : Int32))] []))
                refine own_stW (fun tt zk => XS.iconst X172.here hx rfl (hb hby at_195) zk) ?_
                show OGoW p e below s room_1 Z _ (OLawQ n0) (T172.setTop (mkF m 196 #[.val (.int q1), .val (.int q2), .val (.int q3), .val (.int q4), .val (.int len), .val (.int ca), .val (.int cb), .val (.int cc), .val (.ref sx), .val (.int (0 : Int32))] [(.int (1 : Int32))]))
                refine own_stW (fun tt zk => XS.goto X172.here hx rfl (pc0 := 196) (pc' := 200) rfl (hb hby at_196) (by decide) (by decide) zk) ?_
                show OGoW p e below s room_1 Z _ (OLawQ n0) (T172.setTop (mkF m 200 #[.val (.int q1), .val (.int q2), .val (.int q3), .val (.int q4), .val (.int len), .val (.int ca), .val (.int cb), .val (.int cc), .val (.ref sx), .val (.int (0 : Int32))] [(.int (1 : Int32))]))
                exact own_retWN X172 hx hlk (t := .boolean) hret (by simp) (hb hby at_200) (by decide) (by decide) hS e172 es hk hZ hEL CH (⟨rfl, Nr162⟩)
            · obtain ⟨_, T173, Lc173, X173, hQ173, st173⟩ := own_callI X139 hx hZ (y := (⟨"java/lang/String", "<init>", "([C)V"⟩ : MethodName)) (W := 1) rfl hown (hw _ (List.mem_of_getElem? (i := 4) rfl)) (hw _ (List.mem_of_getElem? (i := 5) rfl)) (hw _ (List.mem_of_getElem? (i := 6) rfl)) (hw _ (List.mem_of_getElem? (i := 2) rfl)) (by decide) (sc5 l Z a0 hw sx ax 3 (own_c3 ca cb cc) cs hp139 n0 Z0 old_sx (Ne.symm ne_sx_ax) E_sx F_coder_sx F_value_sx A_ax S_COMPACT_STRINGS (by decide) (by decide) (own_le3 g_ca g_cb g_cc) hcs) (by decide) (by decide) (a := sx) (g := (mkF m 149 #[.val (.int q1), .val (.int q2), .val (.int q3), .val (.int q4), .val (.int len), .val (.int ca), .val (.int cb), .val (.int cc), .unset, .unset] [(.ref ax), (.ref sx), (.ref sx)])) rfl (by rw [hml]; rfl) (argsL := [(.ref ax)]) (rest := [(.ref sx)]) (lenOf pd_16 rfl) rfl (by show 2 * 0 + _ ≤ _; exact Nat.le_of_eq rfl) (hb hby at_149) rfl e139 (by decide) (by decide)
              obtain ⟨t1, rfl, Nq173, Kq173, fq173_t1, q173_0, q173_1, q173_2, q173_3⟩ := hQ173
              have ne_sx_t1 : sx ≠ t1 := Nat.ne_of_lt (Nat.lt_of_lt_of_le E_sx.lt fq173_t1)
              have ne_ax_t1 : ax ≠ t1 := Nat.ne_of_lt (Nat.lt_of_lt_of_le A_ax.lt fq173_t1)
              have old_t1 : n0 ≤ t1 := Nat.le_trans Z0 fq173_t1
              have hpl_Kq173 : ∀ w ∈ [sx], ∃ c : Cell, hp139[w]? = some c ∧ c.vm.isStatics = false := (allS (own_pl_exa E_sx) all0)
              have Z0 := Nat.le_trans Z0 Kq173.1
              have hk := Nat.le_trans hk Kq173.1
              have CH := CH.trans (CHr.keep Kq173 (allS (own_safe_null hZ.alike E_sx F_value_sx) all0) CH.1)
              have S_COMPACT_STRINGS := own_sta_keep S_COMPACT_STRINGS Kq173 hpl_Kq173
              have S_SIOOBE_FORMATTER := own_sta_keep S_SIOOBE_FORMATTER Kq173 hpl_Kq173
              have S__assertionsDisabled := own_sta_keep S__assertionsDisabled Kq173 hpl_Kq173
              have S_HI_BYTE_SHIFT := own_sta_keep S_HI_BYTE_SHIFT Kq173 hpl_Kq173
              have S_LO_BYTE_SHIFT := own_sta_keep S_LO_BYTE_SHIFT Kq173 hpl_Kq173
              have A_ax := A_ax.keep Kq173 (ninS (Ne.symm ne_sx_ax) nin0)
              have Nr173 := Fr.app Nf139 Nq173
              have E_sx := q173_0
              have F_coder_sx := q173_1
              have F_value_sx := q173_2
              have A_t1 := q173_3
              refine own_stW st173 ?_
              show OGoW p e below s room_1 Z _ (OLawQ n0) (T173.setTop (mkF m 152 #[.val (.int q1), .val (.int q2), .val (.int q3), .val (.int q4), .val (.int len), .val (.int ca), .val (.int cb), .val (.int cc), .unset, .unset] [(.ref sx)]))
              refine own_stW (fun tt zk => XS.astore X173.here hx rfl (hb hby at_152) rfl rfl (l' := #[.val (.int q1), .val (.int q2), .val (.int q3), .val (.int q4), .val (.int len), .val (.int ca), .val (.int cb), .val (.int cc), .val (.ref sx), .unset]) rfl zk) ?_
              show OGoW p e below s room_1 Z _ (OLawQ n0) (T173.setTop (mkF m 154 #[.val (.int q1), .val (.int q2), .val (.int q3), .val (.int q4), .val (.int len), .val (.int ca), .val (.int cb), .val (.int cc), .val (.ref sx), .unset] []))
              refine own_stW (fun tt zk => XS.iload X173.here hx rfl (hb hby at_154) rfl zk) ?_
              show OGoW p e below s room_1 Z _ (OLawQ n0) (T173.setTop (mkF m 156 #[.val (.int q1), .val (.int q2), .val (.int q3), .val (.int q4), .val (.int len), .val (.int ca), .val (.int cb), .val (.int cc), .val (.ref sx), .unset] [(.int ca)]))
              by_cases h_ca : own_okb ca = true
              · obtain ⟨T174, X174, e174, st174⟩ := own_callSP X173 hx hZ (y := (⟨"com/example/plain_keys/plainkeys/server/HttpGrammarIsFieldValuePinLaw", "ok", "(C)Z"⟩ : MethodName)) (W := 0) hown (hw _ (List.mem_of_getElem? (i := 47) rfl)) (hw _ (List.mem_of_getElem? (i := 48) rfl)) (hw _ (List.mem_of_getElem? (i := 49) rfl)) (hw _ (List.mem_of_getElem? (i := 50) rfl)) (by decide) (ro l Z a0 hw ca 1 T173.heap (own_obt h_ca)) (by decide) (by decide) (g := (mkF m 156 #[.val (.int q1), .val (.int q2), .val (.int q3), .val (.int q4), .val (.int len), .val (.int ca), .val (.int cb), .val (.int cc), .val (.ref sx), .unset] [(.int ca)])) rfl (by rw [hml]; rfl) (argsL := [(.int ca)]) (rest := []) (lenOf pd_18 rfl) rfl (by show 2 * 0 + _ ≤ _; exact Nat.le_of_eq rfl) (hb hby at_156) rfl rfl (by decide) (by decide)
                refine own_stW st174 ?_
                show OGoW p e below s room_1 Z _ (OLawQ n0) (T174.setTop (mkF m 159 #[.val (.int q1), .val (.int q2), .val (.int q3), .val (.int q4), .val (.int len), .val (.int ca), .val (.int cb), .val (.int cc), .val (.ref sx), .unset] [(.int (1 : Int32))]))
                refine own_stW (fun tt zk => XS.ifNo X174.here hx rfl (hb hby at_159) rfl ((if0 _ _).trans (feq ((by decide : ¬ (1 : Int32) = (0 : Int32)))).1) zk) ?_
                show OGoW p e below s room_1 Z _ (OLawQ n0) (T174.setTop (mkF m 162 #[.val (.int q1), .val (.int q2), .val (.int q3), .val (.int q4), .val (.int len), .val (.int ca), .val (.int cb), .val (.int cc), .val (.ref sx), .unset] []))
                refine own_stW (fun tt zk => XS.iload X174.here hx rfl (hb hby at_162) rfl zk) ?_
                show OGoW p e below s room_1 Z _ (OLawQ n0) (T174.setTop (mkF m 164 #[.val (.int q1), .val (.int q2), .val (.int q3), .val (.int q4), .val (.int len), .val (.int ca), .val (.int cb), .val (.int cc), .val (.ref sx), .unset] [(.int cb)]))
                by_cases h_cb : own_okb cb = true
                · obtain ⟨T176, X176, e176, st176⟩ := own_callSP X174 hx hZ (y := (⟨"com/example/plain_keys/plainkeys/server/HttpGrammarIsFieldValuePinLaw", "ok", "(C)Z"⟩ : MethodName)) (W := 0) hown (hw _ (List.mem_of_getElem? (i := 47) rfl)) (hw _ (List.mem_of_getElem? (i := 48) rfl)) (hw _ (List.mem_of_getElem? (i := 49) rfl)) (hw _ (List.mem_of_getElem? (i := 50) rfl)) (by decide) (ro l Z a0 hw cb 1 T173.heap (own_obt h_cb)) (by decide) (by decide) (g := (mkF m 164 #[.val (.int q1), .val (.int q2), .val (.int q3), .val (.int q4), .val (.int len), .val (.int ca), .val (.int cb), .val (.int cc), .val (.ref sx), .unset] [(.int cb)])) rfl (by rw [hml]; rfl) (argsL := [(.int cb)]) (rest := []) (lenOf pd_18 rfl) rfl (by show 2 * 0 + _ ≤ _; exact Nat.le_of_eq rfl) (hb hby at_164) rfl e174 (by decide) (by decide)
                  refine own_stW st176 ?_
                  show OGoW p e below s room_1 Z _ (OLawQ n0) (T176.setTop (mkF m 167 #[.val (.int q1), .val (.int q2), .val (.int q3), .val (.int q4), .val (.int len), .val (.int ca), .val (.int cb), .val (.int cc), .val (.ref sx), .unset] [(.int (1 : Int32))]))
                  refine own_stW (fun tt zk => XS.ifNo X176.here hx rfl (hb hby at_167) rfl ((if0 _ _).trans (feq ((by decide : ¬ (1 : Int32) = (0 : Int32)))).1) zk) ?_
                  show OGoW p e below s room_1 Z _ (OLawQ n0) (T176.setTop (mkF m 170 #[.val (.int q1), .val (.int q2), .val (.int q3), .val (.int q4), .val (.int len), .val (.int ca), .val (.int cb), .val (.int cc), .val (.ref sx), .unset] []))
                  refine own_stW (fun tt zk => XS.iload X176.here hx rfl (hb hby at_170) rfl zk) ?_
                  show OGoW p e below s room_1 Z _ (OLawQ n0) (T176.setTop (mkF m 172 #[.val (.int q1), .val (.int q2), .val (.int q3), .val (.int q4), .val (.int len), .val (.int ca), .val (.int cb), .val (.int cc), .val (.ref sx), .unset] [(.int cc)]))
                  by_cases h_cc : own_okb cc = true
                  · obtain ⟨T178, X178, e178, st178⟩ := own_callSP X176 hx hZ (y := (⟨"com/example/plain_keys/plainkeys/server/HttpGrammarIsFieldValuePinLaw", "ok", "(C)Z"⟩ : MethodName)) (W := 0) hown (hw _ (List.mem_of_getElem? (i := 47) rfl)) (hw _ (List.mem_of_getElem? (i := 48) rfl)) (hw _ (List.mem_of_getElem? (i := 49) rfl)) (hw _ (List.mem_of_getElem? (i := 50) rfl)) (by decide) (ro l Z a0 hw cc 1 T173.heap (own_obt h_cc)) (by decide) (by decide) (g := (mkF m 172 #[.val (.int q1), .val (.int q2), .val (.int q3), .val (.int q4), .val (.int len), .val (.int ca), .val (.int cb), .val (.int cc), .val (.ref sx), .unset] [(.int cc)])) rfl (by rw [hml]; rfl) (argsL := [(.int cc)]) (rest := []) (lenOf pd_18 rfl) rfl (by show 2 * 0 + _ ≤ _; exact Nat.le_of_eq rfl) (hb hby at_172) rfl e176 (by decide) (by decide)
                    refine own_stW st178 ?_
                    show OGoW p e below s room_1 Z _ (OLawQ n0) (T178.setTop (mkF m 175 #[.val (.int q1), .val (.int q2), .val (.int q3), .val (.int q4), .val (.int len), .val (.int ca), .val (.int cb), .val (.int cc), .val (.ref sx), .unset] [(.int (1 : Int32))]))
                    refine own_stW (fun tt zk => XS.ifNo X178.here hx rfl (hb hby at_175) rfl ((if0 _ _).trans (feq ((by decide : ¬ (1 : Int32) = (0 : Int32)))).1) zk) ?_
                    show OGoW p e below s room_1 Z _ (OLawQ n0) (T178.setTop (mkF m 178 #[.val (.int q1), .val (.int q2), .val (.int q3), .val (.int q4), .val (.int len), .val (.int ca), .val (.int cb), .val (.int cc), .val (.ref sx), .unset] []))
                    refine own_stW (fun tt zk => XS.iconst X178.here hx rfl (hb hby at_178) zk) ?_
                    show OGoW p e below s room_1 Z _ (OLawQ n0) (T178.setTop (mkF m 179 #[.val (.int q1), .val (.int q2), .val (.int q3), .val (.int q4), .val (.int len), .val (.int ca), .val (.int cb), .val (.int cc), .val (.ref sx), .unset] [(.int (1 : Int32))]))
                    refine own_stW (fun tt zk => XS.goto X178.here hx rfl (pc0 := 179) (pc' := 183) rfl (hb hby at_179) (by decide) (by decide) zk) ?_
                    show OGoW p e below s room_1 Z _ (OLawQ n0) (T178.setTop (mkF m 183 #[.val (.int q1), .val (.int q2), .val (.int q3), .val (.int q4), .val (.int len), .val (.int ca), .val (.int cb), .val (.int cc), .val (.ref sx), .unset] [(.int (1 : Int32))]))
                    refine own_stW (fun tt zk => XS.istore X178.here hx rfl (hb hby at_183) rfl (l' := #[.val (.int q1), .val (.int q2), .val (.int q3), .val (.int q4), .val (.int len), .val (.int ca), .val (.int cb), .val (.int cc), .val (.ref sx), .val (.int (1 : Int32))]) rfl zk) ?_
                    show OGoW p e below s room_1 Z _ (OLawQ n0) (T178.setTop (mkF m 185 #[.val (.int q1), .val (.int q2), .val (.int q3), .val (.int q4), .val (.int len), .val (.int ca), .val (.int cb), .val (.int cc), .val (.ref sx), .val (.int (1 : Int32))] []))
                    refine own_stW (fun tt zk => XS.aload X178.here hx rfl (hb hby at_185) rfl rfl zk) ?_
                    show OGoW p e below s room_1 Z _ (OLawQ n0) (T178.setTop (mkF m 187 #[.val (.int q1), .val (.int q2), .val (.int q3), .val (.int q4), .val (.int len), .val (.int ca), .val (.int cb), .val (.int cc), .val (.ref sx), .val (.int (1 : Int32))] [(.ref sx)]))
                    obtain ⟨T180, X180, e180, st180⟩ := own_callSP X178 hx hZ (y := (⟨"com/example/plain_keys/plainkeys/server/HttpGrammar", "isFieldValue", "(Ljava/lang/String;)Z"⟩ : MethodName)) (W := 0) hown (hw _ (List.mem_of_getElem? (i := 22) rfl)) (hw _ (List.mem_of_getElem? (i := 23) rfl)) (hw _ (List.mem_of_getElem? (i := 24) rfl)) (hw _ (List.mem_of_getElem? (i := 25) rfl)) (by decide) (riL l Z a0 hw sx t1 3 (own_c3 ca cb cc) cs fm (1 : Int32) T173.heap E_sx F_coder_sx F_value_sx A_t1 S_COMPACT_STRINGS S_SIOOBE_FORMATTER hcs cat_fm ir_fm (by decide) (own_bd bd_ca bd_cb bd_cc 3) (own_le3 g_ca g_cb g_cc) (by simp [own_from, own_c3, own_c0, OB, hl0, hl1, hl2, h_ca, h_cb, h_cc])) (by decide) (by decide) (g := (mkF m 187 #[.val (.int q1), .val (.int q2), .val (.int q3), .val (.int q4), .val (.int len), .val (.int ca), .val (.int cb), .val (.int cc), .val (.ref sx), .val (.int (1 : Int32))] [(.ref sx)])) rfl (by rw [hml]; rfl) (argsL := [(.ref sx)]) (rest := []) (lenOf pd_17 rfl) rfl (by show 2 * 0 + _ ≤ _; exact Nat.le_of_eq rfl) (hb hby at_187) rfl e178 (by decide) (by decide)
                    refine own_stW st180 ?_
                    show OGoW p e below s room_1 Z _ (OLawQ n0) (T180.setTop (mkF m 190 #[.val (.int q1), .val (.int q2), .val (.int q3), .val (.int q4), .val (.int len), .val (.int ca), .val (.int cb), .val (.int cc), .val (.ref sx), .val (.int (1 : Int32))] [(.int (1 : Int32))]))
                    refine own_stW (fun tt zk => XS.iload X180.here hx rfl (hb hby at_190) rfl zk) ?_
                    show OGoW p e below s room_1 Z _ (OLawQ n0) (T180.setTop (mkF m 192 #[.val (.int q1), .val (.int q2), .val (.int q3), .val (.int q4), .val (.int len), .val (.int ca), .val (.int cb), .val (.int cc), .val (.ref sx), .val (.int (1 : Int32))] [(.int (1 : Int32)), (.int (1 : Int32))]))
                    refine own_stW (fun tt zk => XS.icmpNo X180.here hx rfl (hb hby at_192) rfl (teq (rfl)).2 zk) ?_
                    show OGoW p e below s room_1 Z _ (OLawQ n0) (T180.setTop (mkF m 195 #[.val (.int q1), .val (.int q2), .val (.int q3), .val (.int q4), .val (.int len), .val (.int ca), .val (.int cb), .val (.int cc), .val (.ref sx), .val (.int (1 : Int32))] []))
                    refine own_stW (fun tt zk => XS.iconst X180.here hx rfl (hb hby at_195) zk) ?_
                    show OGoW p e below s room_1 Z _ (OLawQ n0) (T180.setTop (mkF m 196 #[.val (.int q1), .val (.int q2), .val (.int q3), .val (.int q4), .val (.int len), .val (.int ca), .val (.int cb), .val (.int cc), .val (.ref sx), .val (.int (1 : Int32))] [(.int (1 : Int32))]))
                    refine own_stW (fun tt zk => XS.goto X180.here hx rfl (pc0 := 196) (pc' := 200) rfl (hb hby at_196) (by decide) (by decide) zk) ?_
                    show OGoW p e below s room_1 Z _ (OLawQ n0) (T180.setTop (mkF m 200 #[.val (.int q1), .val (.int q2), .val (.int q3), .val (.int q4), .val (.int len), .val (.int ca), .val (.int cb), .val (.int cc), .val (.ref sx), .val (.int (1 : Int32))] [(.int (1 : Int32))]))
                    exact own_retWN X180 hx hlk (t := .boolean) hret (by simp) (hb hby at_200) (by decide) (by decide) hS e180 es hk hZ hEL CH (⟨rfl, Nr173⟩)
                  · obtain ⟨T179, X179, e179, st179⟩ := own_callSP X176 hx hZ (y := (⟨"com/example/plain_keys/plainkeys/server/HttpGrammarIsFieldValuePinLaw", "ok", "(C)Z"⟩ : MethodName)) (W := 0) hown (hw _ (List.mem_of_getElem? (i := 47) rfl)) (hw _ (List.mem_of_getElem? (i := 48) rfl)) (hw _ (List.mem_of_getElem? (i := 49) rfl)) (hw _ (List.mem_of_getElem? (i := 50) rfl)) (by decide) (ro l Z a0 hw cc 0 T173.heap (own_obf h_cc)) (by decide) (by decide) (g := (mkF m 172 #[.val (.int q1), .val (.int q2), .val (.int q3), .val (.int q4), .val (.int len), .val (.int ca), .val (.int cb), .val (.int cc), .val (.ref sx), .unset] [(.int cc)])) rfl (by rw [hml]; rfl) (argsL := [(.int cc)]) (rest := []) (lenOf pd_18 rfl) rfl (by show 2 * 0 + _ ≤ _; exact Nat.le_of_eq rfl) (hb hby at_172) rfl e176 (by decide) (by decide)
                    refine own_stW st179 ?_
                    show OGoW p e below s room_1 Z _ (OLawQ n0) (T179.setTop (mkF m 175 #[.val (.int q1), .val (.int q2), .val (.int q3), .val (.int q4), .val (.int len), .val (.int ca), .val (.int cb), .val (.int cc), .val (.ref sx), .unset] [(.int (0 : Int32))]))
                    refine own_stW (fun tt zk => XS.ifYes X179.here hx rfl (pc0 := 175) (pc' := 182) rfl (hb hby at_175) rfl ((if0 _ _).trans (teq ((by decide : (0 : Int32) = (0 : Int32)))).1) (by decide) (by decide) zk) ?_
                    show OGoW p e below s room_1 Z _ (OLawQ n0) (T179.setTop (mkF m 182 #[.val (.int q1), .val (.int q2), .val (.int q3), .val (.int q4), .val (.int len), .val (.int ca), .val (.int cb), .val (.int cc), .val (.ref sx), .unset] []))
                    refine own_stW (fun tt zk => XS.iconst X179.here hx rfl (hb hby at_182) zk) ?_
                    show OGoW p e below s room_1 Z _ (OLawQ n0) (T179.setTop (mkF m 183 #[.val (.int q1), .val (.int q2), .val (.int q3), .val (.int q4), .val (.int len), .val (.int ca), .val (.int cb), .val (.int cc), .val (.ref sx), .unset] [(.int (0 : Int32))]))
                    refine own_stW (fun tt zk => XS.istore X179.here hx rfl (hb hby at_183) rfl (l' := #[.val (.int q1), .val (.int q2), .val (.int q3), .val (.int q4), .val (.int len), .val (.int ca), .val (.int cb), .val (.int cc), .val (.ref sx), .val (.int (0 : Int32))]) rfl zk) ?_
                    show OGoW p e below s room_1 Z _ (OLawQ n0) (T179.setTop (mkF m 185 #[.val (.int q1), .val (.int q2), .val (.int q3), .val (.int q4), .val (.int len), .val (.int ca), .val (.int cb), .val (.int cc), .val (.ref sx), .val (.int (0 : Int32))] []))
                    refine own_stW (fun tt zk => XS.aload X179.here hx rfl (hb hby at_185) rfl rfl zk) ?_
                    show OGoW p e below s room_1 Z _ (OLawQ n0) (T179.setTop (mkF m 187 #[.val (.int q1), .val (.int q2), .val (.int q3), .val (.int q4), .val (.int len), .val (.int ca), .val (.int cb), .val (.int cc), .val (.ref sx), .val (.int (0 : Int32))] [(.ref sx)]))
                    obtain ⟨T181, X181, e181, st181⟩ := own_callSP X179 hx hZ (y := (⟨"com/example/plain_keys/plainkeys/server/HttpGrammar", "isFieldValue", "(Ljava/lang/String;)Z"⟩ : MethodName)) (W := 0) hown (hw _ (List.mem_of_getElem? (i := 22) rfl)) (hw _ (List.mem_of_getElem? (i := 23) rfl)) (hw _ (List.mem_of_getElem? (i := 24) rfl)) (hw _ (List.mem_of_getElem? (i := 25) rfl)) (by decide) (riL l Z a0 hw sx t1 3 (own_c3 ca cb cc) cs fm (0 : Int32) T173.heap E_sx F_coder_sx F_value_sx A_t1 S_COMPACT_STRINGS S_SIOOBE_FORMATTER hcs cat_fm ir_fm (by decide) (own_bd bd_ca bd_cb bd_cc 3) (own_le3 g_ca g_cb g_cc) (by simp [own_from, own_c3, own_c0, OB, hl0, hl1, hl2, h_ca, h_cb, h_cc])) (by decide) (by decide) (g := (mkF m 187 #[.val (.int q1), .val (.int q2), .val (.int q3), .val (.int q4), .val (.int len), .val (.int ca), .val (.int cb), .val (.int cc), .val (.ref sx), .val (.int (0 : Int32))] [(.ref sx)])) rfl (by rw [hml]; rfl) (argsL := [(.ref sx)]) (rest := []) (lenOf pd_17 rfl) rfl (by show 2 * 0 + _ ≤ _; exact Nat.le_of_eq rfl) (hb hby at_187) rfl e179 (by decide) (by decide)
                    refine own_stW st181 ?_
                    show OGoW p e below s room_1 Z _ (OLawQ n0) (T181.setTop (mkF m 190 #[.val (.int q1), .val (.int q2), .val (.int q3), .val (.int q4), .val (.int len), .val (.int ca), .val (.int cb), .val (.int cc), .val (.ref sx), .val (.int (0 : Int32))] [(.int (0 : Int32))]))
                    refine own_stW (fun tt zk => XS.iload X181.here hx rfl (hb hby at_190) rfl zk) ?_
                    show OGoW p e below s room_1 Z _ (OLawQ n0) (T181.setTop (mkF m 192 #[.val (.int q1), .val (.int q2), .val (.int q3), .val (.int q4), .val (.int len), .val (.int ca), .val (.int cb), .val (.int cc), .val (.ref sx), .val (.int (0 : Int32))] [(.int (0 : Int32)), (.int (0 : Int32))]))
                    refine own_stW (fun tt zk => XS.icmpNo X181.here hx rfl (hb hby at_192) rfl (teq (rfl)).2 zk) ?_
                    show OGoW p e below s room_1 Z _ (OLawQ n0) (T181.setTop (mkF m 195 #[.val (.int q1), .val (.int q2), .val (.int q3), .val (.int q4), .val (.int len), .val (.int ca), .val (.int cb), .val (.int cc), .val (.ref sx), .val (.int (0 : Int32))] []))
                    refine own_stW (fun tt zk => XS.iconst X181.here hx rfl (hb hby at_195) zk) ?_
                    show OGoW p e below s room_1 Z _ (OLawQ n0) (T181.setTop (mkF m 196 #[.val (.int q1), .val (.int q2), .val (.int q3), .val (.int q4), .val (.int len), .val (.int ca), .val (.int cb), .val (.int cc), .val (.ref sx), .val (.int (0 : Int32))] [(.int (1 : Int32))]))
                    refine own_stW (fun tt zk => XS.goto X181.here hx rfl (pc0 := 196) (pc' := 200) rfl (hb hby at_196) (by decide) (by decide) zk) ?_
                    show OGoW p e below s room_1 Z _ (OLawQ n0) (T181.setTop (mkF m 200 #[.val (.int q1), .val (.int q2), .val (.int q3), .val (.int q4), .val (.int len), .val (.int ca), .val (.int cb), .val (.int cc), .val (.ref sx), .val (.int (0 : Int32))] [(.int (1 : Int32))]))
                    exact own_retWN X181 hx hlk (t := .boolean) hret (by simp) (hb hby at_200) (by decide) (by decide) hS e181 es hk hZ hEL CH (⟨rfl, Nr173⟩)
                · obtain ⟨T177, X177, e177, st177⟩ := own_callSP X174 hx hZ (y := (⟨"com/example/plain_keys/plainkeys/server/HttpGrammarIsFieldValuePinLaw", "ok", "(C)Z"⟩ : MethodName)) (W := 0) hown (hw _ (List.mem_of_getElem? (i := 47) rfl)) (hw _ (List.mem_of_getElem? (i := 48) rfl)) (hw _ (List.mem_of_getElem? (i := 49) rfl)) (hw _ (List.mem_of_getElem? (i := 50) rfl)) (by decide) (ro l Z a0 hw cb 0 T173.heap (own_obf h_cb)) (by decide) (by decide) (g := (mkF m 164 #[.val (.int q1), .val (.int q2), .val (.int q3), .val (.int q4), .val (.int len), .val (.int ca), .val (.int cb), .val (.int cc), .val (.ref sx), .unset] [(.int cb)])) rfl (by rw [hml]; rfl) (argsL := [(.int cb)]) (rest := []) (lenOf pd_18 rfl) rfl (by show 2 * 0 + _ ≤ _; exact Nat.le_of_eq rfl) (hb hby at_164) rfl e174 (by decide) (by decide)
                  refine own_stW st177 ?_
                  show OGoW p e below s room_1 Z _ (OLawQ n0) (T177.setTop (mkF m 167 #[.val (.int q1), .val (.int q2), .val (.int q3), .val (.int q4), .val (.int len), .val (.int ca), .val (.int cb), .val (.int cc), .val (.ref sx), .unset] [(.int (0 : Int32))]))
                  refine own_stW (fun tt zk => XS.ifYes X177.here hx rfl (pc0 := 167) (pc' := 182) rfl (hb hby at_167) rfl ((if0 _ _).trans (teq ((by decide : (0 : Int32) = (0 : Int32)))).1) (by decide) (by decide) zk) ?_
                  show OGoW p e below s room_1 Z _ (OLawQ n0) (T177.setTop (mkF m 182 #[.val (.int q1), .val (.int q2), .val (.int q3), .val (.int q4), .val (.int len), .val (.int ca), .val (.int cb), .val (.int cc), .val (.ref sx), .unset] []))
                  refine own_stW (fun tt zk => XS.iconst X177.here hx rfl (hb hby at_182) zk) ?_
                  show OGoW p e below s room_1 Z _ (OLawQ n0) (T177.setTop (mkF m 183 #[.val (.int q1), .val (.int q2), .val (.int q3), .val (.int q4), .val (.int len), .val (.int ca), .val (.int cb), .val (.int cc), .val (.ref sx), .unset] [(.int (0 : Int32))]))
                  refine own_stW (fun tt zk => XS.istore X177.here hx rfl (hb hby at_183) rfl (l' := #[.val (.int q1), .val (.int q2), .val (.int q3), .val (.int q4), .val (.int len), .val (.int ca), .val (.int cb), .val (.int cc), .val (.ref sx), .val (.int (0 : Int32))]) rfl zk) ?_
                  show OGoW p e below s room_1 Z _ (OLawQ n0) (T177.setTop (mkF m 185 #[.val (.int q1), .val (.int q2), .val (.int q3), .val (.int q4), .val (.int len), .val (.int ca), .val (.int cb), .val (.int cc), .val (.ref sx), .val (.int (0 : Int32))] []))
                  refine own_stW (fun tt zk => XS.aload X177.here hx rfl (hb hby at_185) rfl rfl zk) ?_
                  show OGoW p e below s room_1 Z _ (OLawQ n0) (T177.setTop (mkF m 187 #[.val (.int q1), .val (.int q2), .val (.int q3), .val (.int q4), .val (.int len), .val (.int ca), .val (.int cb), .val (.int cc), .val (.ref sx), .val (.int (0 : Int32))] [(.ref sx)]))
                  obtain ⟨T182, X182, e182, st182⟩ := own_callSP X177 hx hZ (y := (⟨"com/example/plain_keys/plainkeys/server/HttpGrammar", "isFieldValue", "(Ljava/lang/String;)Z"⟩ : MethodName)) (W := 0) hown (hw _ (List.mem_of_getElem? (i := 22) rfl)) (hw _ (List.mem_of_getElem? (i := 23) rfl)) (hw _ (List.mem_of_getElem? (i := 24) rfl)) (hw _ (List.mem_of_getElem? (i := 25) rfl)) (by decide) (riL l Z a0 hw sx t1 3 (own_c3 ca cb cc) cs fm (0 : Int32) T173.heap E_sx F_coder_sx F_value_sx A_t1 S_COMPACT_STRINGS S_SIOOBE_FORMATTER hcs cat_fm ir_fm (by decide) (own_bd bd_ca bd_cb bd_cc 3) (own_le3 g_ca g_cb g_cc) (by simp [own_from, own_c3, own_c0, OB, hl0, hl1, hl2, h_ca, h_cb])) (by decide) (by decide) (g := (mkF m 187 #[.val (.int q1), .val (.int q2), .val (.int q3), .val (.int q4), .val (.int len), .val (.int ca), .val (.int cb), .val (.int cc), .val (.ref sx), .val (.int (0 : Int32))] [(.ref sx)])) rfl (by rw [hml]; rfl) (argsL := [(.ref sx)]) (rest := []) (lenOf pd_17 rfl) rfl (by show 2 * 0 + _ ≤ _; exact Nat.le_of_eq rfl) (hb hby at_187) rfl e177 (by decide) (by decide)
                  refine own_stW st182 ?_
                  show OGoW p e below s room_1 Z _ (OLawQ n0) (T182.setTop (mkF m 190 #[.val (.int q1), .val (.int q2), .val (.int q3), .val (.int q4), .val (.int len), .val (.int ca), .val (.int cb), .val (.int cc), .val (.ref sx), .val (.int (0 : Int32))] [(.int (0 : Int32))]))
                  refine own_stW (fun tt zk => XS.iload X182.here hx rfl (hb hby at_190) rfl zk) ?_
                  show OGoW p e below s room_1 Z _ (OLawQ n0) (T182.setTop (mkF m 192 #[.val (.int q1), .val (.int q2), .val (.int q3), .val (.int q4), .val (.int len), .val (.int ca), .val (.int cb), .val (.int cc), .val (.ref sx), .val (.int (0 : Int32))] [(.int (0 : Int32)), (.int (0 : Int32))]))
                  refine own_stW (fun tt zk => XS.icmpNo X182.here hx rfl (hb hby at_192) rfl (teq (rfl)).2 zk) ?_
                  show OGoW p e below s room_1 Z _ (OLawQ n0) (T182.setTop (mkF m 195 #[.val (.int q1), .val (.int q2), .val (.int q3), .val (.int q4), .val (.int len), .val (.int ca), .val (.int cb), .val (.int cc), .val (.ref sx), .val (.int (0 : Int32))] []))
                  refine own_stW (fun tt zk => XS.iconst X182.here hx rfl (hb hby at_195) zk) ?_
                  show OGoW p e below s room_1 Z _ (OLawQ n0) (T182.setTop (mkF m 196 #[.val (.int q1), .val (.int q2), .val (.int q3), .val (.int q4), .val (.int len), .val (.int ca), .val (.int cb), .val (.int cc), .val (.ref sx), .val (.int (0 : Int32))] [(.int (1 : Int32))]))
                  refine own_stW (fun tt zk => XS.goto X182.here hx rfl (pc0 := 196) (pc' := 200) rfl (hb hby at_196) (by decide) (by decide) zk) ?_
                  show OGoW p e below s room_1 Z _ (OLawQ n0) (T182.setTop (mkF m 200 #[.val (.int q1), .val (.int q2), .val (.int q3), .val (.int q4), .val (.int len), .val (.int ca), .val (.int cb), .val (.int cc), .val (.ref sx), .val (.int (0 : Int32))] [(.int (1 : Int32))]))
                  exact own_retWN X182 hx hlk (t := .boolean) hret (by simp) (hb hby at_200) (by decide) (by decide) hS e182 es hk hZ hEL CH (⟨rfl, Nr173⟩)
              · obtain ⟨T175, X175, e175, st175⟩ := own_callSP X173 hx hZ (y := (⟨"com/example/plain_keys/plainkeys/server/HttpGrammarIsFieldValuePinLaw", "ok", "(C)Z"⟩ : MethodName)) (W := 0) hown (hw _ (List.mem_of_getElem? (i := 47) rfl)) (hw _ (List.mem_of_getElem? (i := 48) rfl)) (hw _ (List.mem_of_getElem? (i := 49) rfl)) (hw _ (List.mem_of_getElem? (i := 50) rfl)) (by decide) (ro l Z a0 hw ca 0 T173.heap (own_obf h_ca)) (by decide) (by decide) (g := (mkF m 156 #[.val (.int q1), .val (.int q2), .val (.int q3), .val (.int q4), .val (.int len), .val (.int ca), .val (.int cb), .val (.int cc), .val (.ref sx), .unset] [(.int ca)])) rfl (by rw [hml]; rfl) (argsL := [(.int ca)]) (rest := []) (lenOf pd_18 rfl) rfl (by show 2 * 0 + _ ≤ _; exact Nat.le_of_eq rfl) (hb hby at_156) rfl rfl (by decide) (by decide)
                refine own_stW st175 ?_
                show OGoW p e below s room_1 Z _ (OLawQ n0) (T175.setTop (mkF m 159 #[.val (.int q1), .val (.int q2), .val (.int q3), .val (.int q4), .val (.int len), .val (.int ca), .val (.int cb), .val (.int cc), .val (.ref sx), .unset] [(.int (0 : Int32))]))
                refine own_stW (fun tt zk => XS.ifYes X175.here hx rfl (pc0 := 159) (pc' := 182) rfl (hb hby at_159) rfl ((if0 _ _).trans (teq ((by decide : (0 : Int32) = (0 : Int32)))).1) (by decide) (by decide) zk) ?_
                show OGoW p e below s room_1 Z _ (OLawQ n0) (T175.setTop (mkF m 182 #[.val (.int q1), .val (.int q2), .val (.int q3), .val (.int q4), .val (.int len), .val (.int ca), .val (.int cb), .val (.int cc), .val (.ref sx), .unset] []))
                refine own_stW (fun tt zk => XS.iconst X175.here hx rfl (hb hby at_182) zk) ?_
                show OGoW p e below s room_1 Z _ (OLawQ n0) (T175.setTop (mkF m 183 #[.val (.int q1), .val (.int q2), .val (.int q3), .val (.int q4), .val (.int len), .val (.int ca), .val (.int cb), .val (.int cc), .val (.ref sx), .unset] [(.int (0 : Int32))]))
                refine own_stW (fun tt zk => XS.istore X175.here hx rfl (hb hby at_183) rfl (l' := #[.val (.int q1), .val (.int q2), .val (.int q3), .val (.int q4), .val (.int len), .val (.int ca), .val (.int cb), .val (.int cc), .val (.ref sx), .val (.int (0 : Int32))]) rfl zk) ?_
                show OGoW p e below s room_1 Z _ (OLawQ n0) (T175.setTop (mkF m 185 #[.val (.int q1), .val (.int q2), .val (.int q3), .val (.int q4), .val (.int len), .val (.int ca), .val (.int cb), .val (.int cc), .val (.ref sx), .val (.int (0 : Int32))] []))
                refine own_stW (fun tt zk => XS.aload X175.here hx rfl (hb hby at_185) rfl rfl zk) ?_
                show OGoW p e below s room_1 Z _ (OLawQ n0) (T175.setTop (mkF m 187 #[.val (.int q1), .val (.int q2), .val (.int q3), .val (.int q4), .val (.int len), .val (.int ca), .val (.int cb), .val (.int cc), .val (.ref sx), .val (.int (0 : Int32))] [(.ref sx)]))
                obtain ⟨T183, X183, e183, st183⟩ := own_callSP X175 hx hZ (y := (⟨"com/example/plain_keys/plainkeys/server/HttpGrammar", "isFieldValue", "(Ljava/lang/String;)Z"⟩ : MethodName)) (W := 0) hown (hw _ (List.mem_of_getElem? (i := 22) rfl)) (hw _ (List.mem_of_getElem? (i := 23) rfl)) (hw _ (List.mem_of_getElem? (i := 24) rfl)) (hw _ (List.mem_of_getElem? (i := 25) rfl)) (by decide) (riL l Z a0 hw sx t1 3 (own_c3 ca cb cc) cs fm (0 : Int32) T173.heap E_sx F_coder_sx F_value_sx A_t1 S_COMPACT_STRINGS S_SIOOBE_FORMATTER hcs cat_fm ir_fm (by decide) (own_bd bd_ca bd_cb bd_cc 3) (own_le3 g_ca g_cb g_cc) (by simp [own_from, own_c3, own_c0, OB, hl0, hl1, hl2, h_ca])) (by decide) (by decide) (g := (mkF m 187 #[.val (.int q1), .val (.int q2), .val (.int q3), .val (.int q4), .val (.int len), .val (.int ca), .val (.int cb), .val (.int cc), .val (.ref sx), .val (.int (0 : Int32))] [(.ref sx)])) rfl (by rw [hml]; rfl) (argsL := [(.ref sx)]) (rest := []) (lenOf pd_17 rfl) rfl (by show 2 * 0 + _ ≤ _; exact Nat.le_of_eq rfl) (hb hby at_187) rfl e175 (by decide) (by decide)
                refine own_stW st183 ?_
                show OGoW p e below s room_1 Z _ (OLawQ n0) (T183.setTop (mkF m 190 #[.val (.int q1), .val (.int q2), .val (.int q3), .val (.int q4), .val (.int len), .val (.int ca), .val (.int cb), .val (.int cc), .val (.ref sx), .val (.int (0 : Int32))] [(.int (0 : Int32))]))
                refine own_stW (fun tt zk => XS.iload X183.here hx rfl (hb hby at_190) rfl zk) ?_
                show OGoW p e below s room_1 Z _ (OLawQ n0) (T183.setTop (mkF m 192 #[.val (.int q1), .val (.int q2), .val (.int q3), .val (.int q4), .val (.int len), .val (.int ca), .val (.int cb), .val (.int cc), .val (.ref sx), .val (.int (0 : Int32))] [(.int (0 : Int32)), (.int (0 : Int32))]))
                refine own_stW (fun tt zk => XS.icmpNo X183.here hx rfl (hb hby at_192) rfl (teq (rfl)).2 zk) ?_
                show OGoW p e below s room_1 Z _ (OLawQ n0) (T183.setTop (mkF m 195 #[.val (.int q1), .val (.int q2), .val (.int q3), .val (.int q4), .val (.int len), .val (.int ca), .val (.int cb), .val (.int cc), .val (.ref sx), .val (.int (0 : Int32))] []))
                refine own_stW (fun tt zk => XS.iconst X183.here hx rfl (hb hby at_195) zk) ?_
                show OGoW p e below s room_1 Z _ (OLawQ n0) (T183.setTop (mkF m 196 #[.val (.int q1), .val (.int q2), .val (.int q3), .val (.int q4), .val (.int len), .val (.int ca), .val (.int cb), .val (.int cc), .val (.ref sx), .val (.int (0 : Int32))] [(.int (1 : Int32))]))
                refine own_stW (fun tt zk => XS.goto X183.here hx rfl (pc0 := 196) (pc' := 200) rfl (hb hby at_196) (by decide) (by decide) zk) ?_
                show OGoW p e below s room_1 Z _ (OLawQ n0) (T183.setTop (mkF m 200 #[.val (.int q1), .val (.int q2), .val (.int q3), .val (.int q4), .val (.int len), .val (.int ca), .val (.int cb), .val (.int cc), .val (.ref sx), .val (.int (0 : Int32))] [(.int (1 : Int32))]))
                exact own_retWN X183 hx hlk (t := .boolean) hret (by simp) (hb hby at_200) (by decide) (by decide) hS e183 es hk hZ hEL CH (⟨rfl, Nr173⟩)
theorem own_staeq {args : Array Value} {s : State} {t : Term} {v : Int32} (h : (Jvm.Cond.eq t (.int v)).value args s none s [] = some true) : t.eval args s none [] s = some (.int v) := by
  cases e : t.eval args s none [] s with
  | none => simp only [Cond.value, e] at h; cases h
  | some x =>
    cases x <;> simp only [Cond.value, e, Term.int_eval] at h <;> first | (cases h; done) | skip
    simp only [Option.some.injEq, decide_eq_true_eq] at h
    rw [h]
set_option maxRecDepth 65536 in
set_option maxHeartbeats 40000000 in
theorem comes_1 {Post : Tables → Env → Array Value → State → Outcome → State → Prop} (hpost : ∀ tb e args s v u, (limb_1_1.after args s (.returned v) u = true ∧ limb_1_2.after args s (.returned v) u = true ∧ True) → ReturnedEndW s (.returned v) u (Jvm.fieldLocs frame_1_writes args s ++ Jvm.arrayLocs frame_1_arrays args s ++ Jvm.staticLocs frame_1_statics s) 24 1152 → Post tb e args s (.returned v) u) :
    ArmFor flags0 classFile x code maxLocals ret World_1 tables_1 room_1 Calls_1 rest_1 Pre_1 Post := by
  intro l hfl _ _ p e ha hc hk s m args below hf hA hF happ hP
  obtain ⟨hcalls, hrest, hpre⟩ := hP
  obtain ⟨-, -, -, hnamed, -, -, -, hat⟩ := (Spec.applies_iff hf).mp happ
  obtain ⟨hg, hn⟩ := and_e (Cond.before_iff.mp (show (Jvm.Cond.and given_1 narrow_1).before args s = true from hpre))
  obtain ⟨gs1, gs2⟩ := and_e hg
  obtain ⟨gs3, gs4⟩ := and_e gs2
  obtain ⟨gs5, gs6⟩ := and_e gs4
  obtain ⟨gs7, gs8⟩ := and_e gs6
  obtain ⟨w0, w1, w2, w3, rfl⟩ : ∃ w0 w1 w2 w3 : Value, args = #[w0, w1, w2, w3] := by
    have hs : args.size = 4 := by simpa [Cond.value, given_1] using gs1
    obtain ⟨L⟩ := args
    match L, hs with
    | [w0, w1, w2, w3], _ => exact ⟨w0, w1, w2, w3, rfl⟩
  have hw := fun d (hd : d ∈ tables_1) => atoms_spec (ws := Jvm.Cond.code x code maxLocals ret :: tables_1) hat d (List.mem_cons_of_mem _ hd)
  have hfit : Fit s := fun {y c} hc i hi => by
    obtain ⟨ha, rfl⟩ := Array.getElem?_eq_some_iff.mp hc
    have q := List.all_eq_true.mp ((Array.all_eq_true_iff_forall_mem.mp hF) _ (Array.getElem_mem ha)) i (List.mem_range.mpr hi)
    simpa [Array.getElem?_eq_getElem hi] using q
  obtain ⟨hsets, hown0⟩ := atoms_of _ (rest_1_c_eq ▸ (show rest_1_c.before _ s = true from hrest))
  have hr0 := Cond.before_iff.mp hown0
  obtain ⟨i0, ei0⟩ := is_v gs3
  obtain rfl : w0 = (.int i0) := Option.some.inj ei0
  obtain ⟨i1, ei1⟩ := is_v gs5
  obtain rfl : w1 = (.int i1) := Option.some.inj ei1
  obtain ⟨i2, ei2⟩ := is_v gs7
  obtain rfl : w2 = (.int i2) := Option.some.inj ei2
  obtain ⟨i3, ei3⟩ := is_v gs8
  obtain rfl : w3 = (.int i3) := Option.some.inj ei3
  obtain ⟨cs, hcs⟩ := is_v (Cond.before_iff.mp (hsets _ (List.mem_of_getElem? (i := 1) rfl)))
  have hScs := Sta.start hcs (Or.inl (hsets _ (List.mem_of_getElem? (i := 0) rfl)))
  have hnz : ¬ cs = (0 : Int32) := by
    have u8 := not_v (Cond.before_iff.mp (hsets _ (List.mem_of_getElem? (i := 2) rfl)))
    simp only [Cond.value, hcs, Term.int_eval] at u8
    simpa using u8
  obtain ⟨fm, hfm, ir_fm⟩ := isR_v (Cond.before_iff.mp (hsets _ (List.mem_of_getElem? (i := 8) rfl)))
  have cat_fm : fm.category = 1 := by rcases ref_cases ir_fm with rfl | ⟨_, rfl⟩ <;> rfl
  have hSfm := Sta.start hfm (Or.inl (hsets _ (List.mem_of_getElem? (i := 7) rfl)))
  have hS_ad := Sta.start (own_staeq (Cond.before_iff.mp (hsets _ (List.mem_of_getElem? (i := 12) rfl)))) (Or.inl (hsets _ (List.mem_of_getElem? (i := 11) rfl)))
  have hS_hi := Sta.start (own_staeq (Cond.before_iff.mp (hsets _ (List.mem_of_getElem? (i := 15) rfl)))) (Or.inl (hsets _ (List.mem_of_getElem? (i := 14) rfl)))
  have hS_lo := Sta.start (own_staeq (Cond.before_iff.mp (hsets _ (List.mem_of_getElem? (i := 18) rfl)))) (Or.inl (hsets _ (List.mem_of_getElem? (i := 17) rfl)))
  have hheld : ∀ p ∈ own_EL, Jvm.Lit.constHeld s p.1 p.2 := hcalls.1
  have hCH : CHv s own_EL s.vm s.heap := CHv.start (own_EW hw) hheld (show Jvm.Lit.compactW.before _ s = true from (hsets _ (List.mem_of_getElem? (i := 2) rfl))) (hw _ (List.mem_of_getElem? (i := 15) rfl)) (hw _ (List.mem_of_getElem? (i := 1) rfl))
  obtain ⟨n, o, h1, h2, h3, _, L, rfl, ⟨rfl, N⟩, -, hq⟩ := rm0 l s _ hw tables_1 i0 i1 i2 i3 cs fm s.heap s.heap.size (Nat.le_refl _) hScs hSfm hS_ad hS_hi hS_lo hnz cat_fm ir_fm p e ha hc hk s m _ below hf ((Spec.applies_iff_loose hf).mp happ).1 ⟨rfl, State.Warmed39.refl s, rfl, hCH⟩ trivial
  refine ⟨n, _, h1, h2, h3, hpost _ _ _ _ _ _ ⟨Cond.after_iff.mpr rfl, Cond.after_iff.mpr (eq_i res_at (Term.int_eval (1)) rfl), trivial⟩ ⟨hq.1, hq.2.1, hq.2.2.1, (hq.2.2.2.sift fun y hy => Or.inr (N y hy)).mono (by decide) (by decide)⟩⟩
theorem main_1_1 : Claimed_1_1 := comes_1 fun _ _ _ _ _ _ h hF => ⟨h.1, hF⟩
theorem main_1_2 : Claimed_1_2 := comes_1 fun _ _ _ _ _ _ h hF => ⟨h.2.1, hF⟩
end Jvm.Pilot.@@N@@
namespace Jvm.Pilot.@@N@@
open Jvm Jvm.ClassFile Sem Op Lib Jvm.Free Jvm.Stand Jvm.Pilot.@@N@@.Jvm.D
/-! MADE BY PROGRAM (witnessworld.py) out of the Statement's table words and the real class files: 20 classes; the members and pool entries that the words name. The judged class is class 1, her method 2. -/
namespace start1
open Jvm.ClassFile
def u (s : String) : CpInfo := .utf8 (stringToUtf16 s)
/-- a pool by its gaps: so many unusable entries, then the entry; so many at the end -/
def gap : Nat → List CpInfo → List CpInfo
  | 0, r => r
  | n + 1, r => .unusable :: gap n r
def poolList (es : List (Nat × CpInfo)) (last : Nat) : List CpInfo := es.foldr (fun e r => gap e.1 (e.2 :: r)) (gap last [])
def pool (es : List (Nat × CpInfo)) (last : Nat) : Array CpInfo := ⟨poolList es last⟩
def fileOf (pool : Array CpInfo) (this : Nat) (attrs : Array Attribute := #[]) (ms : Array MethodInfo := #[]) (fl : Nat := 33) (sup : Nat := 0) (ifs : Array Nat := #[]) (fds : Array FieldInfo := #[]) : ClassFile where
  minorVersion := 0
  majorVersion := 65
  constantPool := pool
  accessFlags := fl
  thisClass := this
  superClass := sup
  interfaces := ifs
  fields := fds
  methods := ms
  attributes := attrs
def plain (name : String) (sup : Option ClassId) : Class where
  name := name
  kind := .ordinary
  loader := none
  accessFlags := 33
  super := sup
  interfaces := #[]
  cf := none
  fields := #[]
  methods := #[]
  instanceTypes := #[]
  staticTypes := #[]
  resolved := #[]
  callSites := []
  init := .initialized
  statics := none
  mirror := none

def pool0 : Array CpInfo := pool [(5, u "<init>"), (0, u "()V"), (1, .class_ 10), (1, u "java/lang/Object")] 113

def k0c0 : Code := { maxStack := 0, maxLocals := 1, code := object_method_1_code, exceptionTable := #[], attributes := #[] }
def k0m0 : Method := { name := "<init>", desc := "()V", sig := { parameters := [], returnType := none }, accessFlags := 1, code := some k0c0 }
/-- java/lang/Object -/
def k0 : Class := { plain "java/lang/Object" none with
  accessFlags := 33
  interfaces := #[]
  cf := some (fileOf pool0 8 #[] #[{ accessFlags := 1, nameIndex := 5, descriptorIndex := 6, attributes := #[] }] 33 0 #[] #[])
  fields := #[]
  methods := #[k0m0]
  instanceTypes := #[]
  staticTypes := #[]
  resolved := Array.replicate 124 none
  statics := none }

def pool1 : Array CpInfo := pool [(2, .class_ 4), (1, u "java/lang/Object"), (0, u "<init>"), (0, u "()V"), (0, .class_ 8), (0, u "java/lang/String"), (0, .methodref 7 10), (0, .nameAndType 5 11), (0, u "([C)V"), (0, .methodref 13 14), (0, .class_ 15), (0, .nameAndType 16 17), (0, u "com/example/plain_keys/plainkeys/server/HttpGrammarIsFieldValuePinLaw"), (0, u "ok"), (0, u "(C)Z"), (0, .methodref 19 20), (0, .class_ 21), (0, .nameAndType 22 23), (0, u "com/example/plain_keys/plainkeys/server/HttpGrammar"), (0, u "isFieldValue"), (0, u "(Ljava/lang/String;)Z"), (3, u "law"), (0, u "(IIII)Z")] 2

def k1m0 : Method := { name := "<init>", desc := "()V", sig := { parameters := [], returnType := none }, accessFlags := 1, code := none }
def k1c1 : Code := { maxStack := 2, maxLocals := 1, code := method_2_code, exceptionTable := #[], attributes := #[] }
def k1m1 : Method := { name := "ok", desc := "(C)Z", sig := { parameters := [.char], returnType := some .boolean }, accessFlags := 10, code := some k1c1 }
def k1c2 : Code := { maxStack := 6, maxLocals := 10, code := code, exceptionTable := #[], attributes := #[] }
def k1m2 : Method := { name := "law", desc := "(IIII)Z", sig := { parameters := [.int, .int, .int, .int], returnType := some .boolean }, accessFlags := 9, code := some k1c2 }
/-- com/example/plain_keys/plainkeys/server/HttpGrammarIsFieldValuePinLaw -/
def k1 : Class := { plain "com/example/plain_keys/plainkeys/server/HttpGrammarIsFieldValuePinLaw" (some 0) with
  accessFlags := 49
  interfaces := #[]
  cf := some (fileOf pool1 13 #[] #[{ accessFlags := 1, nameIndex := 5, descriptorIndex := 6, attributes := #[] }, { accessFlags := 10, nameIndex := 16, descriptorIndex := 17, attributes := #[] }, { accessFlags := 9, nameIndex := 27, descriptorIndex := 28, attributes := #[] }] 49 2 #[] #[])
  fields := #[]
  methods := #[k1m0, k1m1, k1m2]
  instanceTypes := #[]
  staticTypes := #[]
  resolved := Array.replicate 31 none
  statics := none }

def pool2 : Array CpInfo := pool [(1, .class_ 2), (0, u "java/io/Serializable"), (0, .class_ 4), (0, u "java/lang/Object")] 2

/-- java/io/Serializable -/
def k2 : Class := { plain "java/io/Serializable" (some 0) with
  accessFlags := 1537
  interfaces := #[]
  cf := some (fileOf pool2 1 #[] #[] 1537 3 #[] #[])
  fields := #[]
  methods := #[]
  instanceTypes := #[]
  staticTypes := #[]
  resolved := Array.replicate 7 none
  statics := none }

def pool3 : Array CpInfo := pool [(1, .class_ 2), (0, u "java/lang/Comparable"), (0, .class_ 4), (0, u "java/lang/Object")] 7

/-- java/lang/Comparable -/
def k3 : Class := { plain "java/lang/Comparable" (some 0) with
  accessFlags := 1537
  interfaces := #[]
  cf := some (fileOf pool3 1 #[] #[] 1537 3 #[] #[])
  fields := #[]
  methods := #[]
  instanceTypes := #[]
  staticTypes := #[]
  resolved := Array.replicate 12 none
  statics := none }

def pool4 : Array CpInfo := pool [(2, .class_ 4), (1, u "java/lang/CharSequence"), (42, .class_ 48), (0, u "java/lang/CharSequence$1CodePointIterator"), (10, .class_ 60), (0, u "java/lang/CharSequence$1CharIterator"), (5, .class_ 67), (0, u "java/lang/Object")] 63

/-- java/lang/CharSequence -/
def k4 : Class := { plain "java/lang/CharSequence" (some 0) with
  accessFlags := 1537
  interfaces := #[]
  cf := some (fileOf pool4 2 #[.nestMembers #[47, 59]] #[] 1537 66 #[] #[])
  fields := #[]
  methods := #[]
  instanceTypes := #[]
  staticTypes := #[]
  resolved := Array.replicate 131 none
  statics := none }

def pool5 : Array CpInfo := pool [(1, .class_ 2), (0, u "java/lang/constant/Constable"), (0, .class_ 4), (0, u "java/lang/Object")] 6

/-- java/lang/constant/Constable -/
def k5 : Class := { plain "java/lang/constant/Constable" (some 0) with
  accessFlags := 1537
  interfaces := #[]
  cf := some (fileOf pool5 1 #[] #[] 1537 3 #[] #[])
  fields := #[]
  methods := #[]
  instanceTypes := #[]
  staticTypes := #[]
  resolved := Array.replicate 11 none
  statics := none }

def pool6 : Array CpInfo := pool [(1, .class_ 2), (0, u "java/lang/constant/ConstantDesc"), (0, .class_ 4), (0, u "java/lang/Object")] 32

/-- java/lang/constant/ConstantDesc -/
def k6 : Class := { plain "java/lang/constant/ConstantDesc" (some 0) with
  accessFlags := 1537
  interfaces := #[]
  cf := some (fileOf pool6 1 #[] #[] 1537 3 #[] #[])
  fields := #[]
  methods := #[]
  instanceTypes := #[]
  staticTypes := #[]
  resolved := Array.replicate 37 none
  statics := none }

def pool7 : Array CpInfo := pool [(1, .methodref 2 3), (0, .class_ 4), (0, .nameAndType 5 6), (0, u "java/lang/Object"), (0, u "<init>"), (0, u "()V"), (0, .string 8), (0, u ""), (0, .fieldref 10 11), (0, .class_ 12), (0, .nameAndType 13 14), (0, u "java/lang/String"), (0, u "value"), (0, u "[B"), (0, .fieldref 10 16), (0, .nameAndType 17 18), (0, u "coder"), (0, u "B"), (2, u "hash"), (0, u "I"), (2, u "hashIsZero"), (0, u "Z"), (0, .methodref 10 28), (0, .nameAndType 5 29), (0, u "([CIILjava/lang/Void;)V"), (8, .fieldref 10 39), (0, .nameAndType 40 26), (0, u "COMPACT_STRINGS"), (1, .class_ 44), (1, u "java/lang/StringUTF16"), (0, u "compress"), (1, .methodref 42 48), (0, .nameAndType 49 50), (0, u "coderFromArrayLen"), (0, u "([BI)B"), (56, .class_ 109), (1, u "java/lang/StringLatin1"), (32, u "()Z"), (34, .methodref 42 178), (0, .nameAndType 45 179), (0, u "([CII)[B"), (154, u "()I"), (0, .methodref 10 336), (0, .nameAndType 17 337), (0, u "()B"), (25, u "([BI)C"), (27, u "(II)V"), (35, u "(I)C"), (64, .methodref 10 493), (0, .nameAndType 494 142), (0, u "isLatin1"), (0, .methodref 107 496), (0, .nameAndType 497 363), (0, u "charAt"), (0, .methodref 42 496), (2, u "checkIndex"), (5, u "length"), (67, .class_ 576), (0, u "java/lang/CharSequence"), (22, u "CASE_INSENSITIVE_ORDER"), (0, u "Ljava/util/Comparator;"), (409, u "([C)V"), (42, .fieldref 1054 1055), (0, .class_ 1056), (0, .nameAndType 1057 1058), (0, u "jdk/internal/util/Preconditions"), (0, u "SIOOBE_FORMATTER"), (0, u "Ljava/util/function/BiFunction;"), (0, .methodref 1054 1060), (0, .nameAndType 501 1061), (0, u "(IILjava/util/function/BiFunction;)I"), (39, u "serialPersistentFields"), (0, u "[Ljava/io/ObjectStreamField;"), (0, .class_ 1104), (0, u "java/lang/String$CaseInsensitiveComparator"), (1, .class_ 1107), (0, u "java/io/Serializable"), (0, .class_ 1109), (0, u "java/lang/Comparable"), (0, .class_ 1111), (0, u "java/lang/constant/Constable"), (0, .class_ 1113), (0, u "java/lang/constant/ConstantDesc"), (2, u "serialVersionUID"), (0, u "J"), (3, u "REPL"), (0, u "C"), (2, u "LATIN1"), (1, u "UTF16")] 323

def k7m0 : Method := { name := "<init>", desc := "()V", sig := { parameters := [], returnType := none }, accessFlags := 1, code := none }
def k7c1 : Code := { maxStack := 5, maxLocals := 2, code := jdk_42_method_3_code, exceptionTable := #[], attributes := #[] }
def k7m1 : Method := { name := "<init>", desc := "([C)V", sig := { parameters := [(.array .char)], returnType := none }, accessFlags := 1, code := some k7c1 }
def k7c2 : Code := { maxStack := 2, maxLocals := 1, code := jdk_42_method_54_code, exceptionTable := #[], attributes := #[] }
def k7m2 : Method := { name := "length", desc := "()I", sig := { parameters := [], returnType := some .int }, accessFlags := 1, code := some k7c2 }
def k7c3 : Code := { maxStack := 2, maxLocals := 2, code := jdk_42_method_56_code, exceptionTable := #[], attributes := #[] }
def k7m3 : Method := { name := "charAt", desc := "(I)C", sig := { parameters := [.int], returnType := some .char }, accessFlags := 1, code := some k7c3 }
def k7c4 : Code := { maxStack := 4, maxLocals := 6, code := jdk_42_method_149_code, exceptionTable := #[], attributes := #[] }
def k7m4 : Method := { name := "<init>", desc := "([CIILjava/lang/Void;)V", sig := { parameters := [(.array .char), .int, .int, (.object "java/lang/Void")], returnType := none }, accessFlags := 2, code := some k7c4 }
def k7c5 : Code := { maxStack := 1, maxLocals := 1, code := jdk_42_method_152_code, exceptionTable := #[], attributes := #[] }
def k7m5 : Method := { name := "coder", desc := "()B", sig := { parameters := [], returnType := some .byte }, accessFlags := 0, code := some k7c5 }
def k7c6 : Code := { maxStack := 1, maxLocals := 1, code := jdk_42_method_154_code, exceptionTable := #[], attributes := #[] }
def k7m6 : Method := { name := "isLatin1", desc := "()Z", sig := { parameters := [], returnType := some .boolean }, accessFlags := 0, code := some k7c6 }
def k7c7 : Code := { maxStack := 3, maxLocals := 2, code := jdk_42_method_155_code, exceptionTable := #[], attributes := #[] }
def k7m7 : Method := { name := "checkIndex", desc := "(II)V", sig := { parameters := [.int, .int], returnType := none }, accessFlags := 8, code := some k7c7 }
/-- java/lang/String -/
def k7 : Class := { plain "java/lang/String" (some 0) with
  accessFlags := 49
  interfaces := #[2, 3, 4, 5, 6]
  cf := some (fileOf pool7 10 #[.nestMembers #[1103]] #[{ accessFlags := 1, nameIndex := 5, descriptorIndex := 6, attributes := #[] }, { accessFlags := 1, nameIndex := 5, descriptorIndex := 1010, attributes := #[] }, { accessFlags := 1, nameIndex := 507, descriptorIndex := 334, attributes := #[] }, { accessFlags := 1, nameIndex := 497, descriptorIndex := 427, attributes := #[] }, { accessFlags := 2, nameIndex := 5, descriptorIndex := 29, attributes := #[] }, { accessFlags := 0, nameIndex := 17, descriptorIndex := 337, attributes := #[] }, { accessFlags := 0, nameIndex := 494, descriptorIndex := 142, attributes := #[] }, { accessFlags := 8, nameIndex := 501, descriptorIndex := 391, attributes := #[] }] 49 2 #[1106, 1108, 575, 1110, 1112] #[{ accessFlags := 18, nameIndex := 13, descriptorIndex := 14, attributes := #[] }, { accessFlags := 18, nameIndex := 17, descriptorIndex := 18, attributes := #[] }, { accessFlags := 2, nameIndex := 21, descriptorIndex := 22, attributes := #[] }, { accessFlags := 2, nameIndex := 25, descriptorIndex := 26, attributes := #[] }, { accessFlags := 26, nameIndex := 1116, descriptorIndex := 1117, attributes := #[] }, { accessFlags := 24, nameIndex := 40, descriptorIndex := 26, attributes := #[] }, { accessFlags := 26, nameIndex := 1101, descriptorIndex := 1102, attributes := #[] }, { accessFlags := 26, nameIndex := 1121, descriptorIndex := 1122, attributes := #[] }, { accessFlags := 25, nameIndex := 599, descriptorIndex := 600, attributes := #[] }, { accessFlags := 24, nameIndex := 1125, descriptorIndex := 18, attributes := #[] }, { accessFlags := 24, nameIndex := 1127, descriptorIndex := 18, attributes := #[] }])
  fields := #[{ name := "value", type := (.array .byte), accessFlags := 18, slot := 0, constantValue := 0 }, { name := "coder", type := .byte, accessFlags := 18, slot := 1, constantValue := 0 }, { name := "hash", type := .int, accessFlags := 2, slot := 2, constantValue := 0 }, { name := "hashIsZero", type := .boolean, accessFlags := 2, slot := 3, constantValue := 0 }, { name := "serialVersionUID", type := .long, accessFlags := 26, slot := 0, constantValue := 0 }, { name := "COMPACT_STRINGS", type := .boolean, accessFlags := 24, slot := 1, constantValue := 0 }, { name := "serialPersistentFields", type := (.array (.object "java/io/ObjectStreamField")), accessFlags := 26, slot := 2, constantValue := 0 }, { name := "REPL", type := .char, accessFlags := 26, slot := 3, constantValue := 0 }, { name := "CASE_INSENSITIVE_ORDER", type := (.object "java/util/Comparator"), accessFlags := 25, slot := 4, constantValue := 0 }, { name := "LATIN1", type := .byte, accessFlags := 24, slot := 5, constantValue := 0 }, { name := "UTF16", type := .byte, accessFlags := 24, slot := 6, constantValue := 0 }]
  methods := #[k7m0, k7m1, k7m2, k7m3, k7m4, k7m5, k7m6, k7m7]
  instanceTypes := #[(.array .byte), .byte, .int, .boolean]
  staticTypes := #[.long, .boolean, (.array (.object "java/io/ObjectStreamField")), .char, (.object "java/util/Comparator"), .byte, .byte]
  resolved := Array.replicate 1451 none
  statics := some 0 }

def pool8 : Array CpInfo := pool [(2, .class_ 4), (1, u "java/lang/Object"), (0, u "<init>"), (0, u "()V"), (0, .methodref 8 9), (0, .class_ 10), (0, .nameAndType 11 12), (0, u "java/lang/String"), (0, u "length"), (0, u "()I"), (0, .methodref 8 14), (0, .nameAndType 15 16), (0, u "charAt"), (0, u "(I)C"), (0, .class_ 18), (0, u "com/example/plain_keys/plainkeys/server/HttpGrammar"), (55, u "TOKEN_MARKS"), (0, u "Ljava/lang/String;"), (4, u "(Ljava/lang/String;)Z"), (2, u "isFieldValue")] 8

def k8m0 : Method := { name := "<init>", desc := "()V", sig := { parameters := [], returnType := none }, accessFlags := 2, code := none }
def k8c1 : Code := { maxStack := 2, maxLocals := 3, code := prog_45_method_4_code, exceptionTable := #[], attributes := #[] }
def k8m1 : Method := { name := "isFieldValue", desc := "(Ljava/lang/String;)Z", sig := { parameters := [(.object "java/lang/String")], returnType := some .boolean }, accessFlags := 8, code := some k8c1 }
/-- com/example/plain_keys/plainkeys/server/HttpGrammar -/
def k8 : Class := { plain "com/example/plain_keys/plainkeys/server/HttpGrammar" (some 0) with
  accessFlags := 48
  interfaces := #[]
  cf := some (fileOf pool8 17 #[] #[{ accessFlags := 2, nameIndex := 5, descriptorIndex := 6, attributes := #[] }, { accessFlags := 8, nameIndex := 83, descriptorIndex := 80, attributes := #[] }] 48 2 #[] #[{ accessFlags := 26, nameIndex := 74, descriptorIndex := 75, attributes := #[] }])
  fields := #[{ name := "TOKEN_MARKS", type := (.object "java/lang/String"), accessFlags := 26, slot := 0, constantValue := 0 }]
  methods := #[k8m0, k8m1]
  instanceTypes := #[]
  staticTypes := #[(.object "java/lang/String")]
  resolved := Array.replicate 92 none
  statics := none }

def pool9 : Array CpInfo := pool [(3, .class_ 4), (0, u "java/lang/String"), (1, .class_ 8), (1, u "java/lang/Object"), (0, u "<init>"), (0, u "()V"), (0, .methodref 12 13), (0, .class_ 14), (0, .nameAndType 15 16), (0, u "java/lang/StringUTF16"), (0, u "newBytesLength"), (0, u "(I)I"), (3, .integer 1073741823), (23, .fieldref 12 45), (0, .nameAndType 46 47), (0, u "$assertionsDisabled"), (0, u "Z"), (0, .methodref 12 49), (0, .nameAndType 50 51), (0, u "length"), (0, u "([B)I"), (7, .fieldref 12 60), (0, .nameAndType 61 62), (0, u "HI_BYTE_SHIFT"), (0, u "I"), (0, .fieldref 12 64), (0, .nameAndType 65 62), (0, u "LO_BYTE_SHIFT"), (1, .methodref 12 68), (0, .nameAndType 69 70), (0, u "checkIndex"), (0, u "(I[B)V"), (0, .methodref 12 72), (0, .nameAndType 73 74), (0, u "getChar"), (0, u "([BI)C"), (32, .methodref 12 108), (0, .nameAndType 109 110), (0, u "newBytesFor"), (0, u "(I)[B"), (0, .methodref 12 112), (0, .nameAndType 113 114), (0, u "putChar"), (0, u "([BII)V"), (0, .methodref 12 116), (0, .nameAndType 117 118), (0, u "compress"), (0, u "([CI[BII)I"), (0, .methodref 12 120), (0, .nameAndType 121 122), (0, u "toBytes"), (0, u "([CII)[B"), (138, u "coderFromArrayLen"), (0, u "([BI)B"), (106, .class_ 371), (1, u "java/lang/StringUTF16$LinesSpliterator"), (20, u "charAt"), (21, .methodref 3 415), (0, .nameAndType 69 416), (0, u "(II)V"), (13, u "MAX_LENGTH"), (196, .class_ 628), (0, u "java/lang/StringUTF16$CodePointsSpliterator"), (0, .class_ 630), (0, u "java/lang/StringUTF16$CharsSpliterator")] 4

def k9m0 : Method := { name := "<init>", desc := "()V", sig := { parameters := [], returnType := none }, accessFlags := 0, code := none }
def k9c1 : Code := { maxStack := 1, maxLocals := 1, code := jdk_52_method_2_code, exceptionTable := #[], attributes := #[] }
def k9m1 : Method := { name := "newBytesFor", desc := "(I)[B", sig := { parameters := [.int], returnType := some (.array .byte) }, accessFlags := 9, code := some k9c1 }
def k9c2 : Code := { maxStack := 4, maxLocals := 1, code := jdk_52_method_3_code, exceptionTable := #[], attributes := #[] }
def k9m2 : Method := { name := "newBytesLength", desc := "(I)I", sig := { parameters := [.int], returnType := some .int }, accessFlags := 9, code := some k9c2 }
def k9c3 : Code := { maxStack := 4, maxLocals := 3, code := jdk_52_method_4_code, exceptionTable := #[], attributes := #[] }
def k9m3 : Method := { name := "putChar", desc := "([BII)V", sig := { parameters := [(.array .byte), .int, .int], returnType := none }, accessFlags := 8, code := some k9c3 }
def k9c4 : Code := { maxStack := 3, maxLocals := 2, code := jdk_52_method_5_code, exceptionTable := #[], attributes := #[] }
def k9m4 : Method := { name := "getChar", desc := "([BI)C", sig := { parameters := [(.array .byte), .int], returnType := some .char }, accessFlags := 8, code := some k9c4 }
def k9c5 : Code := { maxStack := 2, maxLocals := 1, code := jdk_52_method_6_code, exceptionTable := #[], attributes := #[] }
def k9m5 : Method := { name := "length", desc := "([B)I", sig := { parameters := [(.array .byte)], returnType := some .int }, accessFlags := 9, code := some k9c5 }
def k9c6 : Code := { maxStack := 4, maxLocals := 5, code := jdk_52_method_14_code, exceptionTable := #[], attributes := #[] }
def k9m6 : Method := { name := "toBytes", desc := "([CII)[B", sig := { parameters := [(.array .char), .int, .int], returnType := some (.array .byte) }, accessFlags := 9, code := some k9c6 }
def k9c7 : Code := { maxStack := 2, maxLocals := 2, code := jdk_52_method_15_code, exceptionTable := #[], attributes := #[] }
def k9m7 : Method := { name := "coderFromArrayLen", desc := "([BI)B", sig := { parameters := [(.array .byte), .int], returnType := some .byte }, accessFlags := 8, code := some k9c7 }
def k9c8 : Code := { maxStack := 5, maxLocals := 6, code := jdk_52_method_16_code, exceptionTable := #[], attributes := #[] }
def k9m8 : Method := { name := "compress", desc := "([CII)[B", sig := { parameters := [(.array .char), .int, .int], returnType := some (.array .byte) }, accessFlags := 9, code := some k9c8 }
def k9c9 : Code := { maxStack := 3, maxLocals := 7, code := jdk_52_method_21_code, exceptionTable := #[], attributes := #[] }
def k9m9 : Method := { name := "compress", desc := "([CI[BII)I", sig := { parameters := [(.array .char), .int, (.array .byte), .int, .int], returnType := some .int }, accessFlags := 9, code := some k9c9 }
def k9c10 : Code := { maxStack := 2, maxLocals := 2, code := jdk_52_method_83_code, exceptionTable := #[], attributes := #[] }
def k9m10 : Method := { name := "charAt", desc := "([BI)C", sig := { parameters := [(.array .byte), .int], returnType := some .char }, accessFlags := 9, code := some k9c10 }
def k9c11 : Code := { maxStack := 2, maxLocals := 2, code := jdk_52_method_91_code, exceptionTable := #[], attributes := #[] }
def k9m11 : Method := { name := "checkIndex", desc := "(I[B)V", sig := { parameters := [.int, (.array .byte)], returnType := none }, accessFlags := 9, code := some k9c11 }
/-- java/lang/StringUTF16 -/
def k9 : Class := { plain "java/lang/StringUTF16" (some 0) with
  accessFlags := 48
  interfaces := #[]
  cf := some (fileOf pool9 12 #[.nestMembers #[627, 629, 369]] #[{ accessFlags := 0, nameIndex := 9, descriptorIndex := 10, attributes := #[] }, { accessFlags := 9, nameIndex := 109, descriptorIndex := 110, attributes := #[] }, { accessFlags := 9, nameIndex := 15, descriptorIndex := 16, attributes := #[] }, { accessFlags := 8, nameIndex := 113, descriptorIndex := 114, attributes := #[] }, { accessFlags := 8, nameIndex := 73, descriptorIndex := 74, attributes := #[] }, { accessFlags := 9, nameIndex := 50, descriptorIndex := 51, attributes := #[] }, { accessFlags := 9, nameIndex := 121, descriptorIndex := 122, attributes := #[] }, { accessFlags := 8, nameIndex := 261, descriptorIndex := 262, attributes := #[] }, { accessFlags := 9, nameIndex := 117, descriptorIndex := 122, attributes := #[] }, { accessFlags := 9, nameIndex := 117, descriptorIndex := 118, attributes := #[] }, { accessFlags := 9, nameIndex := 392, descriptorIndex := 74, attributes := #[] }, { accessFlags := 9, nameIndex := 69, descriptorIndex := 70, attributes := #[] }] 48 6 #[] #[{ accessFlags := 26, nameIndex := 61, descriptorIndex := 62, attributes := #[] }, { accessFlags := 26, nameIndex := 65, descriptorIndex := 62, attributes := #[] }, { accessFlags := 24, nameIndex := 430, descriptorIndex := 62, attributes := #[] }, { accessFlags := 4120, nameIndex := 46, descriptorIndex := 47, attributes := #[] }])
  fields := #[{ name := "HI_BYTE_SHIFT", type := .int, accessFlags := 26, slot := 0, constantValue := 0 }, { name := "LO_BYTE_SHIFT", type := .int, accessFlags := 26, slot := 1, constantValue := 0 }, { name := "MAX_LENGTH", type := .int, accessFlags := 24, slot := 2, constantValue := 0 }, { name := "$assertionsDisabled", type := .boolean, accessFlags := 4120, slot := 3, constantValue := 0 }]
  methods := #[k9m0, k9m1, k9m2, k9m3, k9m4, k9m5, k9m6, k9m7, k9m8, k9m9, k9m10, k9m11]
  instanceTypes := #[]
  staticTypes := #[.int, .int, .int, .boolean]
  resolved := Array.replicate 635 none
  statics := some 1 }

def pool10 : Array CpInfo := pool [(1, .class_ 2), (0, u "java/lang/String"), (1, .class_ 6), (1, u "java/lang/Object"), (0, u "<init>"), (0, u "()V"), (0, .methodref 1 10), (0, .nameAndType 11 12), (0, u "checkIndex"), (0, u "(II)V"), (1, .class_ 16), (1, u "java/lang/StringLatin1"), (36, u "([BI)C"), (67, u "$assertionsDisabled"), (0, u "Z"), (98, .class_ 223), (1, u "java/lang/StringLatin1$LinesSpliterator"), (28, u "charAt"), (137, .class_ 391), (0, u "java/lang/StringLatin1$CharsSpliterator")] 3

def k10m0 : Method := { name := "<init>", desc := "()V", sig := { parameters := [], returnType := none }, accessFlags := 0, code := none }
def k10c1 : Code := { maxStack := 2, maxLocals := 2, code := jdk_43_method_2_code, exceptionTable := #[], attributes := #[] }
def k10m1 : Method := { name := "charAt", desc := "([BI)C", sig := { parameters := [(.array .byte), .int], returnType := some .char }, accessFlags := 9, code := some k10c1 }
/-- java/lang/StringLatin1 -/
def k10 : Class := { plain "java/lang/StringLatin1" (some 0) with
  accessFlags := 48
  interfaces := #[]
  cf := some (fileOf pool10 14 #[.nestMembers #[390, 221]] #[{ accessFlags := 0, nameIndex := 7, descriptorIndex := 8, attributes := #[] }, { accessFlags := 9, nameIndex := 252, descriptorIndex := 53, attributes := #[] }] 48 4 #[] #[{ accessFlags := 4120, nameIndex := 121, descriptorIndex := 122, attributes := #[] }])
  fields := #[{ name := "$assertionsDisabled", type := .boolean, accessFlags := 4120, slot := 0, constantValue := 0 }]
  methods := #[k10m0, k10m1]
  instanceTypes := #[]
  staticTypes := #[.boolean]
  resolved := Array.replicate 395 none
  statics := none }

def pool11 : Array CpInfo := pool [(2, .class_ 4), (1, u "java/lang/Object"), (0, u "<init>"), (0, u "()V"), (17, .class_ 26), (1, u "jdk/internal/util/Preconditions"), (6, u "checkIndex"), (21, .class_ 56), (0, u "jdk/internal/util/Preconditions$4"), (57, .class_ 115), (0, u "jdk/internal/util/Preconditions$1"), (7, u "SIOOBE_FORMATTER"), (0, u "Ljava/util/function/BiFunction;"), (0, .class_ 126), (0, u "jdk/internal/util/Preconditions$2"), (3, u "AIOOBE_FORMATTER"), (0, .class_ 132), (0, u "jdk/internal/util/Preconditions$3"), (3, u "IOOBE_FORMATTER"), (41, u "(IILjava/util/function/BiFunction;)I")] 15

def k11m0 : Method := { name := "<init>", desc := "()V", sig := { parameters := [], returnType := none }, accessFlags := 1, code := none }
def k11c1 : Code := { maxStack := 3, maxLocals := 3, code := jdk_41_method_11_code, exceptionTable := #[], attributes := #[] }
def k11m1 : Method := { name := "checkIndex", desc := "(IILjava/util/function/BiFunction;)I", sig := { parameters := [.int, .int, (.object "java/util/function/BiFunction")], returnType := some .int }, accessFlags := 9, code := some k11c1 }
/-- jdk/internal/util/Preconditions -/
def k11 : Class := { plain "jdk/internal/util/Preconditions" (some 0) with
  accessFlags := 33
  interfaces := #[]
  cf := some (fileOf pool11 24 #[.nestMembers #[55, 131, 125, 114]] #[{ accessFlags := 1, nameIndex := 5, descriptorIndex := 6, attributes := #[] }, { accessFlags := 9, nameIndex := 33, descriptorIndex := 178, attributes := #[] }] 33 2 #[] #[{ accessFlags := 25, nameIndex := 123, descriptorIndex := 124, attributes := #[] }, { accessFlags := 25, nameIndex := 130, descriptorIndex := 124, attributes := #[] }, { accessFlags := 25, nameIndex := 136, descriptorIndex := 124, attributes := #[] }])
  fields := #[{ name := "SIOOBE_FORMATTER", type := (.object "java/util/function/BiFunction"), accessFlags := 25, slot := 0, constantValue := 0 }, { name := "AIOOBE_FORMATTER", type := (.object "java/util/function/BiFunction"), accessFlags := 25, slot := 1, constantValue := 0 }, { name := "IOOBE_FORMATTER", type := (.object "java/util/function/BiFunction"), accessFlags := 25, slot := 2, constantValue := 0 }]
  methods := #[k11m0, k11m1]
  instanceTypes := #[]
  staticTypes := #[(.object "java/util/function/BiFunction"), (.object "java/util/function/BiFunction"), (.object "java/util/function/BiFunction")]
  resolved := Array.replicate 194 none
  statics := some 2 }

def pool12 : Array CpInfo := pool [(9, u "<init>"), (6, .class_ 18), (1, u "java/lang/Object"), (0, u "()V"), (1, .class_ 23), (1, u "jdk/internal/util/ArraysSupport"), (0, u "LOG2_ARRAY_LONG_INDEX_SCALE"), (0, u "I"), (2, u "U"), (0, u "Ljdk/internal/misc/Unsafe;"), (8, u "BIG_ENDIAN"), (0, u "Z"), (8, u "LOG2_BYTE_BIT_SIZE"), (4, u "LOG2_ARRAY_INT_INDEX_SCALE"), (54, u "JLA"), (0, u "Ljdk/internal/access/JavaLangAccess;"), (11, u "LOG2_ARRAY_BOOLEAN_INDEX_SCALE"), (9, u "LOG2_ARRAY_BYTE_INDEX_SCALE"), (5, u "LOG2_ARRAY_CHAR_INDEX_SCALE"), (5, u "LOG2_ARRAY_SHORT_INDEX_SCALE"), (18, u "LOG2_ARRAY_FLOAT_INDEX_SCALE"), (24, u "LOG2_ARRAY_DOUBLE_INDEX_SCALE"), (89, u "T_BOOLEAN"), (2, u "T_CHAR"), (1, u "T_FLOAT"), (1, u "T_DOUBLE"), (1, u "T_BYTE"), (1, u "T_SHORT"), (1, u "T_INT"), (1, u "T_LONG"), (1, u "SOFT_MAX_ARRAY_LENGTH")] 83

def k12m0 : Method := { name := "<init>", desc := "()V", sig := { parameters := [], returnType := none }, accessFlags := 2, code := none }
/-- jdk/internal/util/ArraysSupport -/
def k12 : Class := { plain "jdk/internal/util/ArraysSupport" (some 0) with
  accessFlags := 33
  interfaces := #[]
  cf := some (fileOf pool12 21 #[] #[{ accessFlags := 2, nameIndex := 9, descriptorIndex := 19, attributes := #[] }] 33 16 #[] #[{ accessFlags := 24, nameIndex := 28, descriptorIndex := 29, attributes := #[] }, { accessFlags := 26, nameIndex := 38, descriptorIndex := 39, attributes := #[] }, { accessFlags := 25, nameIndex := 121, descriptorIndex := 25, attributes := #[] }, { accessFlags := 25, nameIndex := 131, descriptorIndex := 25, attributes := #[] }, { accessFlags := 25, nameIndex := 137, descriptorIndex := 25, attributes := #[] }, { accessFlags := 25, nameIndex := 143, descriptorIndex := 25, attributes := #[] }, { accessFlags := 25, nameIndex := 53, descriptorIndex := 25, attributes := #[] }, { accessFlags := 25, nameIndex := 24, descriptorIndex := 25, attributes := #[] }, { accessFlags := 25, nameIndex := 162, descriptorIndex := 25, attributes := #[] }, { accessFlags := 25, nameIndex := 187, descriptorIndex := 25, attributes := #[] }, { accessFlags := 26, nameIndex := 48, descriptorIndex := 25, attributes := #[] }, { accessFlags := 25, nameIndex := 277, descriptorIndex := 25, attributes := #[] }, { accessFlags := 25, nameIndex := 280, descriptorIndex := 25, attributes := #[] }, { accessFlags := 25, nameIndex := 282, descriptorIndex := 25, attributes := #[] }, { accessFlags := 25, nameIndex := 284, descriptorIndex := 25, attributes := #[] }, { accessFlags := 25, nameIndex := 286, descriptorIndex := 25, attributes := #[] }, { accessFlags := 25, nameIndex := 288, descriptorIndex := 25, attributes := #[] }, { accessFlags := 25, nameIndex := 290, descriptorIndex := 25, attributes := #[] }, { accessFlags := 25, nameIndex := 292, descriptorIndex := 25, attributes := #[] }, { accessFlags := 26, nameIndex := 108, descriptorIndex := 109, attributes := #[] }, { accessFlags := 25, nameIndex := 294, descriptorIndex := 25, attributes := #[] }])
  fields := #[{ name := "U", type := (.object "jdk/internal/misc/Unsafe"), accessFlags := 24, slot := 0, constantValue := 0 }, { name := "BIG_ENDIAN", type := .boolean, accessFlags := 26, slot := 1, constantValue := 0 }, { name := "LOG2_ARRAY_BOOLEAN_INDEX_SCALE", type := .int, accessFlags := 25, slot := 2, constantValue := 0 }, { name := "LOG2_ARRAY_BYTE_INDEX_SCALE", type := .int, accessFlags := 25, slot := 3, constantValue := 0 }, { name := "LOG2_ARRAY_CHAR_INDEX_SCALE", type := .int, accessFlags := 25, slot := 4, constantValue := 0 }, { name := "LOG2_ARRAY_SHORT_INDEX_SCALE", type := .int, accessFlags := 25, slot := 5, constantValue := 0 }, { name := "LOG2_ARRAY_INT_INDEX_SCALE", type := .int, accessFlags := 25, slot := 6, constantValue := 0 }, { name := "LOG2_ARRAY_LONG_INDEX_SCALE", type := .int, accessFlags := 25, slot := 7, constantValue := 0 }, { name := "LOG2_ARRAY_FLOAT_INDEX_SCALE", type := .int, accessFlags := 25, slot := 8, constantValue := 0 }, { name := "LOG2_ARRAY_DOUBLE_INDEX_SCALE", type := .int, accessFlags := 25, slot := 9, constantValue := 0 }, { name := "LOG2_BYTE_BIT_SIZE", type := .int, accessFlags := 26, slot := 10, constantValue := 0 }, { name := "T_BOOLEAN", type := .int, accessFlags := 25, slot := 11, constantValue := 0 }, { name := "T_CHAR", type := .int, accessFlags := 25, slot := 12, constantValue := 0 }, { name := "T_FLOAT", type := .int, accessFlags := 25, slot := 13, constantValue := 0 }, { name := "T_DOUBLE", type := .int, accessFlags := 25, slot := 14, constantValue := 0 }, { name := "T_BYTE", type := .int, accessFlags := 25, slot := 15, constantValue := 0 }, { name := "T_SHORT", type := .int, accessFlags := 25, slot := 16, constantValue := 0 }, { name := "T_INT", type := .int, accessFlags := 25, slot := 17, constantValue := 0 }, { name := "T_LONG", type := .int, accessFlags := 25, slot := 18, constantValue := 0 }, { name := "JLA", type := (.object "jdk/internal/access/JavaLangAccess"), accessFlags := 26, slot := 19, constantValue := 0 }, { name := "SOFT_MAX_ARRAY_LENGTH", type := .int, accessFlags := 25, slot := 20, constantValue := 0 }]
  methods := #[k12m0]
  instanceTypes := #[]
  staticTypes := #[(.object "jdk/internal/misc/Unsafe"), .boolean, .int, .int, .int, .int, .int, .int, .int, .int, .int, .int, .int, .int, .int, .int, .int, .int, .int, (.object "jdk/internal/access/JavaLangAccess"), .int]
  resolved := Array.replicate 378 none
  statics := none }

def pool13 : Array CpInfo := pool [(1, u "java/lang/Cloneable"), (0, .class_ 1), (0, u "java/lang/Object"), (0, .class_ 3)] 3

/-- java/lang/Cloneable -/
def k13 : Class := { plain "java/lang/Cloneable" (some 0) with
  accessFlags := 1537
  interfaces := #[]
  cf := some (fileOf pool13 2 #[] #[] 1537 4 #[] #[])
  fields := #[]
  methods := #[]
  instanceTypes := #[]
  staticTypes := #[]
  resolved := Array.replicate 8 none
  statics := none }

/-- the primitive byte -/
def k14 : Class := { plain "byte" none with kind := .primitive 'B', accessFlags := 0x411 }
/-- [B -/
def k15 : Class := { plain "[B" (some 0) with kind := .array 14 .byte, interfaces := #[13, 2], accessFlags := 1041 }

/-- the primitive char -/
def k16 : Class := { plain "char" none with kind := .primitive 'C', accessFlags := 0x411 }
/-- [C -/
def k17 : Class := { plain "[C" (some 0) with kind := .array 16 .char, interfaces := #[13, 2], accessFlags := 1041 }

/-- the primitive int -/
def k18 : Class := { plain "int" none with kind := .primitive 'I', accessFlags := 0x411 }
/-- [I -/
def k19 : Class := { plain "[I" (some 0) with kind := .array 18 .int, interfaces := #[13, 2], accessFlags := 1041 }

def heap : Heap := #[{ cls := 7, slots := #[.long 0, .int 1, .null, .int 0, .null, .int 0, .int 0], vm := .statics 7 },
  { cls := 9, slots := #[.int 0, .int 8, .int 0, .int 1], vm := .statics 9 },
  { cls := 11, slots := #[.null, .null, .null], vm := .statics 11 }]
def classes : Array Class := #[k0, k1, k2, k3, k4, k5, k6, k7, k8, k9, k10, k11, k12, k13, k14, k15, k16, k17, k18, k19]
def interned : List (Array UInt16 × Addr) := []
def slotsUsed : Nat := 14
def theMethod : MethodId := ⟨1, 2⟩
def args0 : Array Value := #[.int 5, .int 7, .int 1, .int 2]
def aboutOver (below : List Frame) : State where
  vm := { classes := classes, interned := interned.toArray }
  heap := heap
  slotsUsed := slotsUsed
  threads := #[{ frames := .invoking theMethod args0 :: below }]
def below0 : List Frame := [.native { method := ⟨0, 0⟩, args := #[] }]
def about1 : State := aboutOver below0
def p0 : Program := .bare "" "" ""
def e0 : Env := launch0.env 0 0 0
theorem w_frames : about1.frames = Frame.invoking theMethod args0 :: below0 := rfl
set_option maxRecDepth 65536 in
theorem w_args : argsFit about1.vm theMethod args0 = true := by decide +kernel
set_option maxRecDepth 65536 in
theorem w_heap : heapFits about1 = true := by decide +kernel
set_option maxRecDepth 65536 in
theorem w_runnable : about1.curStatus? = some .runnable := by decide +kernel
set_option maxRecDepth 65536 in
theorem w_alone : about1.alone = true := by decide +kernel
set_option maxRecDepth 65536 in
theorem w_named : about1.methodNamed? x = some theMethod := by decide +kernel
set_option maxRecDepth 65536 in
theorem w_hears : about1.hears theMethod below0 = true := by decide +kernel
set_option maxRecDepth 65536 in
theorem w_ripe : about1.ripe theMethod args0 below0 = true := by decide +kernel
theorem w_running : about1.status = .running := rfl
set_option maxRecDepth 65536 in
theorem w_room : about1.hasRoom e0.platform room_1 = true :=
  launch0.hasRoom_least _ room_1 (by decide +kernel) (by decide +kernel) (by decide +kernel) (by decide +kernel) (by decide +kernel) (by decide +kernel)
theorem allAtoms_all (ts : List Jvm.Cond) (a : Array Jvm.Value) (st : Jvm.State) : (allAtoms ts).before a st = ts.all (fun c => c.before a st) := by
  induction ts with
  | nil => rfl
  | cons c t ih =>
    show (Jvm.Cond.and c (allAtoms t)).before a st = _
    rw [Jvm.Cond.before_and, ih, List.all_cons]
def words1 : List Jvm.Cond := Jvm.Cond.code x code maxLocals ret :: tables_1
/-- a 'code' word, met by the world's own term for the bytes: nothing is compared byte by byte -/
theorem code_word {y : MethodName} {bytes : ByteArray} {mx : Nat} {rt : Option FieldType} {a : Array Value} {s : State} {m : MethodId} {meth : Method} {c : Code} (h1 : s.methodNamed? y = some m) (h2 : s.vm.method? m = some meth) (h3 : meth.code = some c) (h4 : c.code = bytes)
    (h5 : (c.maxLocals == mx && c.exceptionTable.isEmpty && decide (c.maxStack ≤ mostOperands) && decide (meth.sig.returnType = rt) && !meth.locks && decide (parseMethodDescriptor y.desc = some meth.sig)) = true) : (Jvm.Cond.code y bytes mx rt).before a s = true := by
  simp only [Bool.and_eq_true, beq_iff_eq, Bool.not_eq_true', decide_eq_true_eq] at h5
  obtain ⟨⟨⟨⟨⟨g1, g2⟩, g3⟩, g4⟩, g5⟩, g6⟩ := h5
  simp [Cond.before, Cond.holds, Cond.value, h1, h2, h3, h4, g1, g2, g3, g4, g5, g6]
def isCode : Jvm.Cond → Bool
  | .code _ _ _ _ => true
  | _ => false
theorem all_split {L : List Jvm.Cond} {P : Jvm.Cond → Bool} (h1 : L.all (fun c => isCode c || P c) = true) (h2 : ∀ c ∈ L.filter isCode, P c = true) : L.all P = true := by
  refine List.all_eq_true.mpr fun c hc => ?_
  have h := List.all_eq_true.mp h1 c hc
  rcases Bool.eq_false_or_eq_true (isCode c) with hi | hi
  · exact h2 c (List.mem_filter.mpr ⟨hc, hi⟩)
  · simpa [hi] using h
set_option maxRecDepth 65536 in
theorem w_c0 : (Jvm.Cond.code x code maxLocals ret).before args0 about1 = true := code_word (m := ⟨1, 2⟩) (meth := k1m2) (c := k1c2) (by decide +kernel) rfl rfl rfl (by decide +kernel)
set_option maxRecDepth 65536 in
theorem w_c1 : (Jvm.Cond.code ({ cls := "java/lang/String", name := "<init>", desc := "([C)V" } : Jvm.MethodName) jdk_42_method_3_code (2 : Nat) (Option.none : Option Jvm.ClassFile.FieldType)).before args0 about1 = true := code_word (m := ⟨7, 1⟩) (meth := k7m1) (c := k7c1) (by decide +kernel) rfl rfl rfl (by decide +kernel)
set_option maxRecDepth 65536 in
theorem w_c2 : (Jvm.Cond.code ({ cls := "java/lang/String", name := "<init>", desc := "([CIILjava/lang/Void;)V" } : Jvm.MethodName) jdk_42_method_149_code (6 : Nat) (Option.none : Option Jvm.ClassFile.FieldType)).before args0 about1 = true := code_word (m := ⟨7, 4⟩) (meth := k7m4) (c := k7c4) (by decide +kernel) rfl rfl rfl (by decide +kernel)
set_option maxRecDepth 65536 in
theorem w_c3 : (Jvm.Cond.code ({ cls := "java/lang/Object", name := "<init>", desc := "()V" } : Jvm.MethodName) object_method_1_code (1 : Nat) (Option.none : Option Jvm.ClassFile.FieldType)).before args0 about1 = true := code_word (m := ⟨0, 0⟩) (meth := k0m0) (c := k0c0) (by decide +kernel) rfl rfl rfl (by decide +kernel)
set_option maxRecDepth 65536 in
theorem w_c4 : (Jvm.Cond.code ({ cls := "com/example/plain_keys/plainkeys/server/HttpGrammar", name := "isFieldValue", desc := "(Ljava/lang/String;)Z" } : Jvm.MethodName) prog_45_method_4_code (3 : Nat) (Option.some Jvm.ClassFile.FieldType.boolean)).before args0 about1 = true := code_word (m := ⟨8, 1⟩) (meth := k8m1) (c := k8c1) (by decide +kernel) rfl rfl rfl (by decide +kernel)
set_option maxRecDepth 65536 in
theorem w_c5 : (Jvm.Cond.code ({ cls := "java/lang/String", name := "length", desc := "()I" } : Jvm.MethodName) jdk_42_method_54_code (1 : Nat) (Option.some Jvm.ClassFile.FieldType.int)).before args0 about1 = true := code_word (m := ⟨7, 2⟩) (meth := k7m2) (c := k7c2) (by decide +kernel) rfl rfl rfl (by decide +kernel)
set_option maxRecDepth 65536 in
theorem w_c6 : (Jvm.Cond.code ({ cls := "java/lang/String", name := "coder", desc := "()B" } : Jvm.MethodName) jdk_42_method_152_code (1 : Nat) (Option.some Jvm.ClassFile.FieldType.byte)).before args0 about1 = true := code_word (m := ⟨7, 5⟩) (meth := k7m5) (c := k7c5) (by decide +kernel) rfl rfl rfl (by decide +kernel)
set_option maxRecDepth 65536 in
theorem w_c7 : (Jvm.Cond.code ({ cls := "java/lang/StringUTF16", name := "compress", desc := "([CII)[B" } : Jvm.MethodName) jdk_52_method_16_code (6 : Nat) (Option.some (Jvm.ClassFile.FieldType.array Jvm.ClassFile.FieldType.byte))).before args0 about1 = true := code_word (m := ⟨9, 8⟩) (meth := k9m8) (c := k9c8) (by decide +kernel) rfl rfl rfl (by decide +kernel)
set_option maxRecDepth 65536 in
theorem w_c8 : (Jvm.Cond.code ({ cls := "java/lang/StringUTF16", name := "compress", desc := "([CI[BII)I" } : Jvm.MethodName) jdk_52_method_21_code (7 : Nat) (Option.some Jvm.ClassFile.FieldType.int)).before args0 about1 = true := code_word (m := ⟨9, 9⟩) (meth := k9m9) (c := k9c9) (by decide +kernel) rfl rfl rfl (by decide +kernel)
set_option maxRecDepth 65536 in
theorem w_c9 : (Jvm.Cond.code ({ cls := "java/lang/StringUTF16", name := "coderFromArrayLen", desc := "([BI)B" } : Jvm.MethodName) jdk_52_method_15_code (2 : Nat) (Option.some Jvm.ClassFile.FieldType.byte)).before args0 about1 = true := code_word (m := ⟨9, 7⟩) (meth := k9m7) (c := k9c7) (by decide +kernel) rfl rfl rfl (by decide +kernel)
set_option maxRecDepth 65536 in
theorem w_c10 : (Jvm.Cond.code ({ cls := "com/example/plain_keys/plainkeys/server/HttpGrammarIsFieldValuePinLaw", name := "ok", desc := "(C)Z" } : Jvm.MethodName) method_2_code (1 : Nat) (Option.some Jvm.ClassFile.FieldType.boolean)).before args0 about1 = true := code_word (m := ⟨1, 1⟩) (meth := k1m1) (c := k1c1) (by decide +kernel) rfl rfl rfl (by decide +kernel)
set_option maxRecDepth 65536 in
theorem w_c11 : (Jvm.Cond.code ({ cls := "java/lang/String", name := "charAt", desc := "(I)C" } : Jvm.MethodName) jdk_42_method_56_code (2 : Nat) (Option.some Jvm.ClassFile.FieldType.char)).before args0 about1 = true := code_word (m := ⟨7, 3⟩) (meth := k7m3) (c := k7c3) (by decide +kernel) rfl rfl rfl (by decide +kernel)
set_option maxRecDepth 65536 in
theorem w_c12 : (Jvm.Cond.code ({ cls := "java/lang/String", name := "isLatin1", desc := "()Z" } : Jvm.MethodName) jdk_42_method_154_code (1 : Nat) (Option.some Jvm.ClassFile.FieldType.boolean)).before args0 about1 = true := code_word (m := ⟨7, 6⟩) (meth := k7m6) (c := k7c6) (by decide +kernel) rfl rfl rfl (by decide +kernel)
set_option maxRecDepth 65536 in
theorem w_c13 : (Jvm.Cond.code ({ cls := "java/lang/StringLatin1", name := "charAt", desc := "([BI)C" } : Jvm.MethodName) jdk_43_method_2_code (2 : Nat) (Option.some Jvm.ClassFile.FieldType.char)).before args0 about1 = true := code_word (m := ⟨10, 1⟩) (meth := k10m1) (c := k10c1) (by decide +kernel) rfl rfl rfl (by decide +kernel)
set_option maxRecDepth 65536 in
theorem w_c14 : (Jvm.Cond.code ({ cls := "java/lang/String", name := "checkIndex", desc := "(II)V" } : Jvm.MethodName) jdk_42_method_155_code (2 : Nat) (Option.none : Option Jvm.ClassFile.FieldType)).before args0 about1 = true := code_word (m := ⟨7, 7⟩) (meth := k7m7) (c := k7c7) (by decide +kernel) rfl rfl rfl (by decide +kernel)
set_option maxRecDepth 65536 in
theorem w_c15 : (Jvm.Cond.code ({ cls := "jdk/internal/util/Preconditions", name := "checkIndex", desc := "(IILjava/util/function/BiFunction;)I" } : Jvm.MethodName) jdk_41_method_11_code (3 : Nat) (Option.some Jvm.ClassFile.FieldType.int)).before args0 about1 = true := code_word (m := ⟨11, 1⟩) (meth := k11m1) (c := k11c1) (by decide +kernel) rfl rfl rfl (by decide +kernel)
set_option maxRecDepth 65536 in
theorem w_c16 : (Jvm.Cond.code ({ cls := "java/lang/StringUTF16", name := "toBytes", desc := "([CII)[B" } : Jvm.MethodName) jdk_52_method_14_code (5 : Nat) (Option.some (Jvm.ClassFile.FieldType.array Jvm.ClassFile.FieldType.byte))).before args0 about1 = true := code_word (m := ⟨9, 6⟩) (meth := k9m6) (c := k9c6) (by decide +kernel) rfl rfl rfl (by decide +kernel)
set_option maxRecDepth 65536 in
theorem w_c17 : (Jvm.Cond.code ({ cls := "java/lang/StringUTF16", name := "newBytesFor", desc := "(I)[B" } : Jvm.MethodName) jdk_52_method_2_code (1 : Nat) (Option.some (Jvm.ClassFile.FieldType.array Jvm.ClassFile.FieldType.byte))).before args0 about1 = true := code_word (m := ⟨9, 1⟩) (meth := k9m1) (c := k9c1) (by decide +kernel) rfl rfl rfl (by decide +kernel)
set_option maxRecDepth 65536 in
theorem w_c18 : (Jvm.Cond.code ({ cls := "java/lang/StringUTF16", name := "newBytesLength", desc := "(I)I" } : Jvm.MethodName) jdk_52_method_3_code (1 : Nat) (Option.some Jvm.ClassFile.FieldType.int)).before args0 about1 = true := code_word (m := ⟨9, 2⟩) (meth := k9m2) (c := k9c2) (by decide +kernel) rfl rfl rfl (by decide +kernel)
set_option maxRecDepth 65536 in
theorem w_c19 : (Jvm.Cond.code ({ cls := "java/lang/StringUTF16", name := "putChar", desc := "([BII)V" } : Jvm.MethodName) jdk_52_method_4_code (3 : Nat) (Option.none : Option Jvm.ClassFile.FieldType)).before args0 about1 = true := code_word (m := ⟨9, 3⟩) (meth := k9m3) (c := k9c3) (by decide +kernel) rfl rfl rfl (by decide +kernel)
set_option maxRecDepth 65536 in
theorem w_c20 : (Jvm.Cond.code ({ cls := "java/lang/StringUTF16", name := "getChar", desc := "([BI)C" } : Jvm.MethodName) jdk_52_method_5_code (2 : Nat) (Option.some Jvm.ClassFile.FieldType.char)).before args0 about1 = true := code_word (m := ⟨9, 4⟩) (meth := k9m4) (c := k9c4) (by decide +kernel) rfl rfl rfl (by decide +kernel)
set_option maxRecDepth 65536 in
theorem w_c21 : (Jvm.Cond.code ({ cls := "java/lang/StringUTF16", name := "charAt", desc := "([BI)C" } : Jvm.MethodName) jdk_52_method_83_code (2 : Nat) (Option.some Jvm.ClassFile.FieldType.char)).before args0 about1 = true := code_word (m := ⟨9, 10⟩) (meth := k9m10) (c := k9c10) (by decide +kernel) rfl rfl rfl (by decide +kernel)
set_option maxRecDepth 65536 in
theorem w_c22 : (Jvm.Cond.code ({ cls := "java/lang/StringUTF16", name := "checkIndex", desc := "(I[B)V" } : Jvm.MethodName) jdk_52_method_91_code (2 : Nat) (Option.none : Option Jvm.ClassFile.FieldType)).before args0 about1 = true := code_word (m := ⟨9, 11⟩) (meth := k9m11) (c := k9c11) (by decide +kernel) rfl rfl rfl (by decide +kernel)
set_option maxRecDepth 65536 in
theorem w_c23 : (Jvm.Cond.code ({ cls := "java/lang/StringUTF16", name := "length", desc := "([B)I" } : Jvm.MethodName) jdk_52_method_6_code (1 : Nat) (Option.some Jvm.ClassFile.FieldType.int)).before args0 about1 = true := code_word (m := ⟨9, 5⟩) (meth := k9m5) (c := k9c5) (by decide +kernel) rfl rfl rfl (by decide +kernel)
def codes1 : List Jvm.Cond := [Jvm.Cond.code x code maxLocals ret, Jvm.Cond.code ({ cls := "java/lang/String", name := "<init>", desc := "([C)V" } : Jvm.MethodName) jdk_42_method_3_code (2 : Nat) (Option.none : Option Jvm.ClassFile.FieldType), Jvm.Cond.code ({ cls := "java/lang/String", name := "<init>", desc := "([CIILjava/lang/Void;)V" } : Jvm.MethodName) jdk_42_method_149_code (6 : Nat) (Option.none : Option Jvm.ClassFile.FieldType), Jvm.Cond.code ({ cls := "java/lang/Object", name := "<init>", desc := "()V" } : Jvm.MethodName) object_method_1_code (1 : Nat) (Option.none : Option Jvm.ClassFile.FieldType), Jvm.Cond.code ({ cls := "com/example/plain_keys/plainkeys/server/HttpGrammar", name := "isFieldValue", desc := "(Ljava/lang/String;)Z" } : Jvm.MethodName) prog_45_method_4_code (3 : Nat) (Option.some Jvm.ClassFile.FieldType.boolean), Jvm.Cond.code ({ cls := "java/lang/String", name := "length", desc := "()I" } : Jvm.MethodName) jdk_42_method_54_code (1 : Nat) (Option.some Jvm.ClassFile.FieldType.int), Jvm.Cond.code ({ cls := "java/lang/String", name := "coder", desc := "()B" } : Jvm.MethodName) jdk_42_method_152_code (1 : Nat) (Option.some Jvm.ClassFile.FieldType.byte), Jvm.Cond.code ({ cls := "java/lang/StringUTF16", name := "compress", desc := "([CII)[B" } : Jvm.MethodName) jdk_52_method_16_code (6 : Nat) (Option.some (Jvm.ClassFile.FieldType.array Jvm.ClassFile.FieldType.byte)), Jvm.Cond.code ({ cls := "java/lang/StringUTF16", name := "compress", desc := "([CI[BII)I" } : Jvm.MethodName) jdk_52_method_21_code (7 : Nat) (Option.some Jvm.ClassFile.FieldType.int), Jvm.Cond.code ({ cls := "java/lang/StringUTF16", name := "coderFromArrayLen", desc := "([BI)B" } : Jvm.MethodName) jdk_52_method_15_code (2 : Nat) (Option.some Jvm.ClassFile.FieldType.byte), Jvm.Cond.code ({ cls := "com/example/plain_keys/plainkeys/server/HttpGrammarIsFieldValuePinLaw", name := "ok", desc := "(C)Z" } : Jvm.MethodName) method_2_code (1 : Nat) (Option.some Jvm.ClassFile.FieldType.boolean), Jvm.Cond.code ({ cls := "java/lang/String", name := "charAt", desc := "(I)C" } : Jvm.MethodName) jdk_42_method_56_code (2 : Nat) (Option.some Jvm.ClassFile.FieldType.char), Jvm.Cond.code ({ cls := "java/lang/String", name := "isLatin1", desc := "()Z" } : Jvm.MethodName) jdk_42_method_154_code (1 : Nat) (Option.some Jvm.ClassFile.FieldType.boolean), Jvm.Cond.code ({ cls := "java/lang/StringLatin1", name := "charAt", desc := "([BI)C" } : Jvm.MethodName) jdk_43_method_2_code (2 : Nat) (Option.some Jvm.ClassFile.FieldType.char), Jvm.Cond.code ({ cls := "java/lang/String", name := "checkIndex", desc := "(II)V" } : Jvm.MethodName) jdk_42_method_155_code (2 : Nat) (Option.none : Option Jvm.ClassFile.FieldType), Jvm.Cond.code ({ cls := "jdk/internal/util/Preconditions", name := "checkIndex", desc := "(IILjava/util/function/BiFunction;)I" } : Jvm.MethodName) jdk_41_method_11_code (3 : Nat) (Option.some Jvm.ClassFile.FieldType.int), Jvm.Cond.code ({ cls := "java/lang/StringUTF16", name := "toBytes", desc := "([CII)[B" } : Jvm.MethodName) jdk_52_method_14_code (5 : Nat) (Option.some (Jvm.ClassFile.FieldType.array Jvm.ClassFile.FieldType.byte)), Jvm.Cond.code ({ cls := "java/lang/StringUTF16", name := "newBytesFor", desc := "(I)[B" } : Jvm.MethodName) jdk_52_method_2_code (1 : Nat) (Option.some (Jvm.ClassFile.FieldType.array Jvm.ClassFile.FieldType.byte)), Jvm.Cond.code ({ cls := "java/lang/StringUTF16", name := "newBytesLength", desc := "(I)I" } : Jvm.MethodName) jdk_52_method_3_code (1 : Nat) (Option.some Jvm.ClassFile.FieldType.int), Jvm.Cond.code ({ cls := "java/lang/StringUTF16", name := "putChar", desc := "([BII)V" } : Jvm.MethodName) jdk_52_method_4_code (3 : Nat) (Option.none : Option Jvm.ClassFile.FieldType), Jvm.Cond.code ({ cls := "java/lang/StringUTF16", name := "getChar", desc := "([BI)C" } : Jvm.MethodName) jdk_52_method_5_code (2 : Nat) (Option.some Jvm.ClassFile.FieldType.char), Jvm.Cond.code ({ cls := "java/lang/StringUTF16", name := "charAt", desc := "([BI)C" } : Jvm.MethodName) jdk_52_method_83_code (2 : Nat) (Option.some Jvm.ClassFile.FieldType.char), Jvm.Cond.code ({ cls := "java/lang/StringUTF16", name := "checkIndex", desc := "(I[B)V" } : Jvm.MethodName) jdk_52_method_91_code (2 : Nat) (Option.none : Option Jvm.ClassFile.FieldType), Jvm.Cond.code ({ cls := "java/lang/StringUTF16", name := "length", desc := "([B)I" } : Jvm.MethodName) jdk_52_method_6_code (1 : Nat) (Option.some Jvm.ClassFile.FieldType.int)]
set_option maxRecDepth 65536 in
theorem codes_eq : words1.filter isCode = codes1 := rfl
theorem w_codes : ∀ c ∈ words1.filter isCode, c.before args0 about1 = true := by
  rw [codes_eq]
  intro c hc
  simp only [codes1, List.mem_cons, List.not_mem_nil, or_false] at hc
  rcases hc with rfl | rfl | rfl | rfl | rfl | rfl | rfl | rfl | rfl | rfl | rfl | rfl | rfl | rfl | rfl | rfl | rfl | rfl | rfl | rfl | rfl | rfl | rfl | rfl
  · exact w_c0
  · exact w_c1
  · exact w_c2
  · exact w_c3
  · exact w_c4
  · exact w_c5
  · exact w_c6
  · exact w_c7
  · exact w_c8
  · exact w_c9
  · exact w_c10
  · exact w_c11
  · exact w_c12
  · exact w_c13
  · exact w_c14
  · exact w_c15
  · exact w_c16
  · exact w_c17
  · exact w_c18
  · exact w_c19
  · exact w_c20
  · exact w_c21
  · exact w_c22
  · exact w_c23
set_option maxRecDepth 65536 in
theorem w_t1 : (words1.take 24).all (fun c => isCode c || c.before args0 about1) = true := by decide +kernel
set_option maxRecDepth 65536 in
theorem w_t2 : ((words1.drop 24).take 24).all (fun c => isCode c || c.before args0 about1) = true := by decide +kernel
set_option maxRecDepth 65536 in
theorem w_t3 : (((words1.drop 24).drop 24).take 24).all (fun c => isCode c || c.before args0 about1) = true := by decide +kernel
set_option maxRecDepth 65536 in
theorem w_t4 : ((((words1.drop 24).drop 24).drop 24).take 24).all (fun c => isCode c || c.before args0 about1) = true := by decide +kernel
set_option maxRecDepth 65536 in
theorem w_t5 : ((((words1.drop 24).drop 24).drop 24).drop 24).all (fun c => isCode c || c.before args0 about1) = true := by decide +kernel
theorem w_tables : (allAtoms (Jvm.Cond.code x code maxLocals ret :: tables_1)).before args0 about1 = true := by
  rw [allAtoms_all]
  show words1.all (fun c => c.before args0 about1) = true
  refine all_split ?_ w_codes
  rw [← List.take_append_drop 24 words1, List.all_append, w_t1, ← List.take_append_drop 24 (words1.drop 24), List.all_append, w_t2, ← List.take_append_drop 24 ((words1.drop 24).drop 24), List.all_append, w_t3, ← List.take_append_drop 24 (((words1.drop 24).drop 24).drop 24), List.all_append, w_t4, w_t5]
  rfl
set_option maxRecDepth 65536 in
theorem w_rest : rest_1_c.before args0 about1 = true := by decide +kernel
set_option maxRecDepth 65536 in
theorem w_case : (Jvm.Cond.and given_1 narrow_1).before args0 about1 = true := by decide +kernel
set_option maxRecDepth 65536 in
theorem w_consts : constsHeld consts_1 about1 := Jvm.Lit.constsHeldB_iff.mp (by decide +kernel)
theorem w_applies : (headSpec (Jvm.Cond.code x code maxLocals ret :: tables_1) room_1).applies x e0.platform about1 = true :=
  (Spec.applies_iff w_frames).mpr ⟨w_running, w_runnable, w_alone, w_named, w_hears, w_ripe, w_room, w_tables⟩
theorem atStart : AtStart classFile x code maxLocals ret World_1 tables_1 room_1 Calls_1 rest_1 Pre_1 launch0 p0 e0 about1 theMethod args0 below0 :=
  ⟨lists_1, trivial, launch0.admits_env _ _ _, launch0.least_env, fairChoices_fair.cas, fairChoices_fair.clock, w_frames, w_args, w_heap, w_applies, ⟨w_consts, trivial⟩, w_rest, w_case⟩
end start1
theorem witness_1 : WitnessClaimed_1 := ⟨start1.p0, start1.e0, start1.about1, start1.theMethod, start1.args0, start1.below0, start1.atStart⟩
end Jvm.Pilot.@@N@@
