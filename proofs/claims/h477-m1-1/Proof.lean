import JvmDerived
import JvmDerived.Pilot.@@N@@Statement
import JvmDerived.Pilot.@@N@@Code
set_option linter.unusedVariables false
set_option linter.unusedSimpArgs false
namespace Jvm.Pilot.@@N@@
open Jvm Jvm.ClassFile Sem Op Lib Jvm.Free Jvm.Stand Jvm.LawKit Jvm.RoadKit Bundle Jvm.Pilot.@@N@@.Jvm.D
section OwnKit
variable {p : Program} {l : Launch} {e : Env} {R : Room} {s : State} {m : MethodId} {args : Array Value} {below : List Frame} {meth : Method} {c : Code} {T : State} {locs : List Loc} {cells slots : Nat} {Z : State} {a0 : Array Value} {h : Heap}
/-- from U the invocation ends, returns v, and Q holds of v, the heap and the written places -/
def OGo (p : Program) (e : Env) (below : List Frame) (s : State) (R : Room) (Q : Option Value → Heap → List Loc → Prop) (U : State) : Prop :=
  ∃ s₂ o, Steps p.tables e below U s₂ ∧ s₂.status = .running ∧ Ended s₂ below o ∧ ∃ v L, o = .returned v ∧ Q v s₂.heap L ∧ FrameEnd s o s₂ L R.cells R.slots
variable {Q : Option Value → Heap → List Loc → Prop}
theorem own_st {A B : State} (hs : ∀ t, Steps p.tables e below A t → Steps p.tables e below B t) (k : OGo p e below s R Q A) : OGo p e below s R Q B := by
  obtain ⟨t, o, h1, h2⟩ := k
  exact ⟨t, o, hs t h1, h2⟩
theorem own_ret {v : Option Value} {U : State} (X : Stand p l e R s m args below meth c T locs cells slots) (hlk : meth.locks = false) (hv : meth.sig.returnType = none → v = none) (hc : cells ≤ R.cells) (hs : slots ≤ R.slots) (hq : Q v T.heap locs)
    (st : ∀ fs, (∀ (f : JFrame) (acts : List Action), f.method = m → f.locked = none → f.entered = [] → (doReturn e (T.setTop f) acts v).1 = T.setFrames fs) → Steps p.tables e below U (T.setFrames fs)) : OGo p e below s R Q U := by
  obtain ⟨fs, hr, hrun, hended, hW, hsame⟩ := X.leave (v := v) hv hlk
  exact ⟨_, _, st fs hr, hrun, hended, v, locs, rfl, hq, ⟨_, rfl⟩, hW, hsame.mono hc hs⟩
theorem own_retV (X : Stand p l e R s m args below meth c T locs cells slots) (hx : p.tables.exec = Jvm.exec) (hlk : meth.locks = false) {pc : Nat} {Ls : Array Slot} (hret : meth.sig.returnType = none) (hd : decode c.code pc = .ok (.return_, 1)) (hc : cells ≤ R.cells) (hs : slots ≤ R.slots) (hq : Q none T.heap locs) :
    OGo p e below s R Q (T.setTop (mkF m pc Ls [])) :=
  own_ret X hlk (fun _ => rfl) hc hs hq fun fs hr => X.returnOut hx hret hd hr
theorem own_retN (X : Stand p l e R s m args below meth c T locs cells slots) (hx : p.tables.exec = Jvm.exec) (hlk : meth.locks = false) {pc : Nat} {Ls : Array Slot} {z : Int32} {t : FieldType} {rest : List Value} (hret : meth.sig.returnType = some t) (ht : t = .boolean ∨ t = .byte ∨ t = .char ∨ t = .short)
    (hd : decode c.code pc = .ok (.ireturn, 1)) (hc : cells ≤ R.cells) (hs : slots ≤ R.slots) (hq : Q (some (.int (nar t z))) T.heap locs) : OGo p e below s R Q (T.setTop (mkF m pc Ls (.int z :: rest))) :=
  own_ret X hlk (fun q => by rw [hret] at q; cases q) hc hs hq fun fs hr => retN X hx hret ht hd hr
theorem own_retI (X : Stand p l e R s m args below meth c T locs cells slots) (hx : p.tables.exec = Jvm.exec) (hlk : meth.locks = false) {pc : Nat} {Ls : Array Slot} {z : Int32} {rest : List Value} (hret : meth.sig.returnType = some .int)
    (hd : decode c.code pc = .ok (.ireturn, 1)) (hc : cells ≤ R.cells) (hs : slots ≤ R.slots) (hq : Q (some (.int z)) T.heap locs) : OGo p e below s R Q (T.setTop (mkF m pc Ls (.int z :: rest))) :=
  own_ret X hlk (fun q => by rw [hret] at q; cases q) hc hs hq fun fs hr => by
    have hm' : T.vm.method? m = some meth := X.method'
    have hn : narrow .int (.int z) = .int z := rfl
    show Steps p.tables e below (T.setTop { method := m, pc := pc, locals := Ls, stack := _ :: rest, locked := none }) _
    jvm_step X.here [X.here.top, hx, hd, hm', hret, hn]
    first | (intro acts; rw [hr _ acts rfl rfl rfl]) | rw [hr _ _ rfl rfl rfl]
    exact Steps.refl _
theorem own_retJ (X : Stand p l e R s m args below meth c T locs cells slots) (hx : p.tables.exec = Jvm.exec) (hlk : meth.locks = false) {pc : Nat} {Ls : Array Slot} {z : Int64} {rest : List Value} (hret : meth.sig.returnType = some .long)
    (hd : decode c.code pc = .ok (.lreturn, 1)) (hc : cells ≤ R.cells) (hs : slots ≤ R.slots) (hq : Q (some (.long z)) T.heap locs) : OGo p e below s R Q (T.setTop (mkF m pc Ls (.long z :: rest))) :=
  own_ret X hlk (fun q => by rw [hret] at q; cases q) hc hs hq fun fs hr => by
    show Steps p.tables e below (T.setTop { method := m, pc := pc, locals := Ls, stack := _ :: rest, locked := none }) _
    jvm_step X.here [X.here.top, hx, hd, X.method', hret, narrow]
    first | (intro acts; rw [hr _ acts rfl rfl rfl]) | rw [hr _ _ rfl rfl rfl]
    exact Steps.refl _
theorem own_retA (X : Stand p l e R s m args below meth c T locs cells slots) (hx : p.tables.exec = Jvm.exec) (hlk : meth.locks = false) {pc : Nat} {Ls : Array Slot} {z : Value} {rest : List Value} {t : FieldType} (hret : meth.sig.returnType = some t) (hz : z.isRef = true) (ht : t.isReference = true)
    (hd : decode c.code pc = .ok (.areturn, 1)) (hc : cells ≤ R.cells) (hs : slots ≤ R.slots) (hq : Q (some z) T.heap locs) : OGo p e below s R Q (T.setTop (mkF m pc Ls (z :: rest))) :=
  own_ret X hlk (fun q => by rw [hret] at q; cases q) hc hs hq fun fs hr => by
    show Steps p.tables e below (T.setTop { method := m, pc := pc, locals := Ls, stack := _ :: rest, locked := none }) _
    jvm_step X.here [X.here.top, hx, hd, X.method', hret, hz, ht]
    first | (intro acts; rw [hr _ acts rfl rfl rfl]) | rw [hr _ _ rfl rfl rfl]
    exact Steps.refl _
/-- the contract of a body at the arguments 'as' and the heap h0 -/
abbrev OMet (l : Launch) (Z : State) (y : MethodName) (bytes : ByteArray) (ml : Nat) (rt : Option FieldType) (ws : List Jvm.Cond) (R : Room) (as : Array Value) (h0 : Heap) (Q : Option Value → Heap → List Loc → Prop) : Prop :=
  MetFree l y (head1 (Jvm.Cond.code y bytes ml rt :: ws) R) (fun a U => a = as ∧ Z.Warmed39 U.vm ∧ U.heap = h0) (fun _ _ _ _ _ => True) (fun _ U o U' => ∃ v L, o = .returned v ∧ Q v U'.heap L ∧ FrameEnd U o U' L R.cells R.slots)
/-- .. of one that returns v and leaves everything -/
abbrev OPure (l : Launch) (Z : State) (y : MethodName) (bytes : ByteArray) (ml : Nat) (rt : Option FieldType) (ws : List Jvm.Cond) (R : Room) (as : Array Value) (h0 : Heap) (v : Option Value) : Prop :=
  OMet l Z y bytes ml rt ws R as h0 (fun v' h' L => v' = v ∧ L = [] ∧ h' = h0)
theorem own_body {y : MethodName} {bytes : ByteArray} {ml : Nat} {rt : Option FieldType} {ws : List Jvm.Cond} {as : Array Value} {h0 : Heap} {L0 : Array Slot} (hp : plainFor y = true) (ef : ∀ m, entryFrame m as ml = mkF m 0 L0 [])
    (body : ∀ p e s m below meth c T, p.tables.exec = Jvm.exec → c.code = bytes → c.maxLocals = ml → s.vm.findClass y.cls = some m.cls → meth.name = y.name → meth.sig.returnType = rt → meth.locks = false → Z.Warmed39 s.vm →
      Stand p l e R s m as below meth c T [] 0 0 → T.heap = h0 → OGo p e below s R Q (T.setTop (mkF m 0 L0 []))) : OMet l Z y bytes ml rt ws R as h0 Q := by
  refine MetFree.of_bodySF hp hisR ?_
  intro p e s m args below meth c s₁ Bd hml0 hP hK
  obtain ⟨rfl, hZ, hh⟩ := hP
  have X0 : Stand p l e R s m _ below meth c s₁ [] 0 0 := Stand.of_body Bd
  obtain ⟨t, o, h1, h2⟩ := body p e s m below meth c s₁ Bd.exec Bd.bytes hml0 (findClass_of_methodNamed Bd.named) (name_of_methodNamed Bd.named Bd.method).1 Bd.returns Bd.notSynchronized hZ X0 (by rw [← hh, Bd.state]; rfl)
  exact ⟨t, o, castTop (ef m) h1, h2⟩
variable {own : String} {index : Nat} {y z : MethodName} {bytes : ByteArray} {ml W : Nat} {rt : Option FieldType} {rm : Room} {as : Array Value}
theorem own_callS (X : Stand p l e R s m args below meth c T locs cells slots) (hx : p.tables.exec = Jvm.exec) (hZ : Z.Warmed39 s.vm) (hown : s.vm.findClass own = some m.cls)
    (w1 : (Jvm.Cond.methodLink own index y).before a0 Z = true) (w2 : (Jvm.Cond.static y).before a0 Z = true) (w3 : (Jvm.Cond.initialized y.cls).before a0 Z = true) (w4 : (Jvm.Cond.code y bytes ml rt).before a0 Z = true)
    (hy : y.cls ≠ "java/lang/invoke/MethodHandle" ∧ y.cls ≠ "java/lang/invoke/VarHandle") (hM : OMet l Z y bytes ml rt [] rm as h Q) (hf : rm.frames + 1 ≤ R.frames) (hl : W + (ml + 11) + rm.locals ≤ R.locals)
    {g : JFrame} (hg : g.method = m) (hsz : g.locals.size = c.maxLocals) {argsL rest : List Value} (hlen : ∀ sig, parseMethodDescriptor y.desc = some sig → argsL.length = sig.parameters.length) (hstack : g.stack = argsL.reverse ++ rest)
    (hW : 2 * g.monitorRoom + (rest.map fun v => v.category).sum ≤ W) (hd : decode c.code g.pc = .ok (.invokestatic index, 3)) (ha : argsL.toArray = as) (eT : T.heap = h) (hc : cells + rm.cells ≤ R.cells) (hs : slots + rm.slots ≤ R.slots) :
    ∃ v T' L, Stand p l e R s m args below meth c T' (locs ++ L) (cells + rm.cells) (slots + rm.slots) ∧ Q v T'.heap L ∧ ∀ t, Steps p.tables e below (T'.setTop { g with pc := g.pc + 3, stack := v.toList ++ rest }) t → Steps p.tables e below (T.setTop g) t := by
  obtain ⟨v, _, ⟨T3, L3, k3, n3⟩, -, X3, ⟨Lc3, hQ3, l3, y3, z3⟩, st3⟩ := Jvm.LawKit.callS X hx (y := y) hown (mvT hZ w1) (mvT hZ w2) (mvT hZ w3) (mvT hZ w4) hy (backOf (W := W) hM hZ w4 w3 hf hl) hg hsz hlen hstack hW hd (fun _ _ => ⟨ha, eT, hc, hs⟩)
  dsimp only [Pt.U, Pt.locs, Pt.cells, Pt.slots] at X3 l3 y3 z3 st3 hQ3
  subst l3 y3 z3
  exact ⟨v, T3, Lc3, X3, hQ3, st3⟩
theorem own_callSP {v0 : Option Value} (X : Stand p l e R s m args below meth c T locs cells slots) (hx : p.tables.exec = Jvm.exec) (hZ : Z.Warmed39 s.vm) (hown : s.vm.findClass own = some m.cls)
    (w1 : (Jvm.Cond.methodLink own index y).before a0 Z = true) (w2 : (Jvm.Cond.static y).before a0 Z = true) (w3 : (Jvm.Cond.initialized y.cls).before a0 Z = true) (w4 : (Jvm.Cond.code y bytes ml rt).before a0 Z = true)
    (hy : y.cls ≠ "java/lang/invoke/MethodHandle" ∧ y.cls ≠ "java/lang/invoke/VarHandle") (hM : OPure l Z y bytes ml rt [] rm as h v0) (hf : rm.frames + 1 ≤ R.frames) (hl : W + (ml + 11) + rm.locals ≤ R.locals)
    {g : JFrame} (hg : g.method = m) (hsz : g.locals.size = c.maxLocals) {argsL rest : List Value} (hlen : ∀ sig, parseMethodDescriptor y.desc = some sig → argsL.length = sig.parameters.length) (hstack : g.stack = argsL.reverse ++ rest)
    (hW : 2 * g.monitorRoom + (rest.map fun v => v.category).sum ≤ W) (hd : decode c.code g.pc = .ok (.invokestatic index, 3)) (ha : argsL.toArray = as) (eT : T.heap = h) (hc : cells + rm.cells ≤ R.cells) (hs : slots + rm.slots ≤ R.slots) :
    ∃ T', Stand p l e R s m args below meth c T' locs (cells + rm.cells) (slots + rm.slots) ∧ T'.heap = h ∧ ∀ t, Steps p.tables e below (T'.setTop { g with pc := g.pc + 3, stack := v0.toList ++ rest }) t → Steps p.tables e below (T.setTop g) t := by
  obtain ⟨v, T', L, X', ⟨rfl, rfl, e'⟩, st⟩ := own_callS X hx hZ hown w1 w2 w3 w4 hy hM hf hl hg hsz hlen hstack hW hd ha eT hc hs
  rw [List.append_nil] at X'
  exact ⟨T', X', e', st⟩
theorem own_callI (X : Stand p l e R s m args below meth c T locs cells slots) (hx : p.tables.exec = Jvm.exec) (hZ : Z.Warmed39 s.vm) (hy1 : y.name = "<init>") (hown : s.vm.findClass own = some m.cls)
    (w1 : (Jvm.Cond.methodLink own index y).before a0 Z = true) (w2 : (Jvm.Cond.instanceMethod y).before a0 Z = true) (w4 : (Jvm.Cond.code y bytes ml none).before a0 Z = true) (w3 : (Jvm.Cond.initialized y.cls).before a0 Z = true)
    (hy : y.cls ≠ "java/lang/invoke/MethodHandle" ∧ y.cls ≠ "java/lang/invoke/VarHandle") (hM : OMet l Z y bytes ml none [] rm as h Q) (hf : rm.frames + 1 ≤ R.frames) (hl : W + (ml + 11) + rm.locals ≤ R.locals) {a : Addr}
    {g : JFrame} (hg : g.method = m) (hsz : g.locals.size = c.maxLocals) {argsL rest : List Value} (hlen : ∀ sig, parseMethodDescriptor y.desc = some sig → argsL.length = sig.parameters.length) (hstack : g.stack = argsL.reverse ++ .ref a :: rest)
    (hW : 2 * g.monitorRoom + (rest.map fun v => v.category).sum ≤ W) (hd : decode c.code g.pc = .ok (.invokespecial index, 3)) (ha : (.ref a :: argsL).toArray = as) (eT : T.heap = h) (hc : cells + rm.cells ≤ R.cells) (hs : slots + rm.slots ≤ R.slots) :
    ∃ v T' L, Stand p l e R s m args below meth c T' (locs ++ L) (cells + rm.cells) (slots + rm.slots) ∧ Q v T'.heap L ∧ ∀ t, Steps p.tables e below (T'.setTop { g with pc := g.pc + 3, stack := v.toList ++ rest }) t → Steps p.tables e below (T.setTop g) t := by
  obtain ⟨v, _, ⟨T3, L3, k3, n3⟩, -, X3, ⟨Lc3, hQ3, l3, y3, z3⟩, st3⟩ := X.specialBack hx (y := y) hy1 hown (mvT hZ w1) (mvT hZ w2) (mvT hZ w4) hy (backOf (W := W) hM hZ w4 w3 hf hl) hg hsz (Steps.refl _) (a := a) hlen hstack hW hd (fun _ _ => ⟨ha, eT, hc, hs⟩)
  dsimp only [Pt.U, Pt.locs, Pt.cells, Pt.slots] at X3 l3 y3 z3 st3 hQ3
  subst l3 y3 z3
  exact ⟨v, T3, Lc3, X3, hQ3, fun t k => st3.trans k⟩
theorem own_callIP {v0 : Option Value} (X : Stand p l e R s m args below meth c T locs cells slots) (hx : p.tables.exec = Jvm.exec) (hZ : Z.Warmed39 s.vm) (hy1 : y.name = "<init>") (hown : s.vm.findClass own = some m.cls)
    (w1 : (Jvm.Cond.methodLink own index y).before a0 Z = true) (w2 : (Jvm.Cond.instanceMethod y).before a0 Z = true) (w4 : (Jvm.Cond.code y bytes ml none).before a0 Z = true) (w3 : (Jvm.Cond.initialized y.cls).before a0 Z = true)
    (hy : y.cls ≠ "java/lang/invoke/MethodHandle" ∧ y.cls ≠ "java/lang/invoke/VarHandle") (hM : OPure l Z y bytes ml none [] rm as h v0) (hf : rm.frames + 1 ≤ R.frames) (hl : W + (ml + 11) + rm.locals ≤ R.locals) {a : Addr}
    {g : JFrame} (hg : g.method = m) (hsz : g.locals.size = c.maxLocals) {argsL rest : List Value} (hlen : ∀ sig, parseMethodDescriptor y.desc = some sig → argsL.length = sig.parameters.length) (hstack : g.stack = argsL.reverse ++ .ref a :: rest)
    (hW : 2 * g.monitorRoom + (rest.map fun v => v.category).sum ≤ W) (hd : decode c.code g.pc = .ok (.invokespecial index, 3)) (ha : (.ref a :: argsL).toArray = as) (eT : T.heap = h) (hc : cells + rm.cells ≤ R.cells) (hs : slots + rm.slots ≤ R.slots) :
    ∃ T', Stand p l e R s m args below meth c T' locs (cells + rm.cells) (slots + rm.slots) ∧ T'.heap = h ∧ ∀ t, Steps p.tables e below (T'.setTop { g with pc := g.pc + 3, stack := v0.toList ++ rest }) t → Steps p.tables e below (T.setTop g) t := by
  obtain ⟨v, T', L, X', ⟨rfl, rfl, e'⟩, st⟩ := own_callI X hx hZ hy1 hown w1 w2 w4 w3 hy hM hf hl hg hsz hlen hstack hW hd ha eT hc hs
  rw [List.append_nil] at X'
  exact ⟨T', X', e', st⟩
theorem own_callV {C : String} (X : Stand p l e R s m args below meth c T locs cells slots) (hx : p.tables.exec = Jvm.exec) (hZ : Z.Warmed39 s.vm) (hown : s.vm.findClass own = some m.cls)
    (w1 : (Jvm.Cond.methodLink own index y).before a0 Z = true) (w2 : (Jvm.Cond.declares y).before a0 Z = true) (hnf : NotFace s y) (ws : (Jvm.Cond.selects C y z).before a0 Z = true) (wi : (Jvm.Cond.instanceMethod z).before a0 Z = true)
    (w4 : (Jvm.Cond.code z bytes ml rt).before a0 Z = true) (w3 : (Jvm.Cond.initialized z.cls).before a0 Z = true)
    (hy : y.cls ≠ "java/lang/invoke/MethodHandle" ∧ y.cls ≠ "java/lang/invoke/VarHandle") (hM : OMet l Z z bytes ml rt [] rm as h Q) (hf : rm.frames + 1 ≤ R.frames) (hl : W + (ml + 11) + rm.locals ≤ R.locals) {a : Addr} (E : Exa Z h a C)
    {g : JFrame} (hg : g.method = m) (hsz : g.locals.size = c.maxLocals) {argsL rest : List Value} (hlen : ∀ sig, parseMethodDescriptor y.desc = some sig → argsL.length = sig.parameters.length) (hstack : g.stack = argsL.reverse ++ .ref a :: rest)
    (hW : 2 * g.monitorRoom + (rest.map fun v => v.category).sum ≤ W) (hd : decode c.code g.pc = .ok (.invokevirtual index, 3)) (ha : (.ref a :: argsL).toArray = as) (eT : T.heap = h) (hc : cells + rm.cells ≤ R.cells) (hs : slots + rm.slots ≤ R.slots) :
    ∃ v T' L, Stand p l e R s m args below meth c T' (locs ++ L) (cells + rm.cells) (slots + rm.slots) ∧ Q v T'.heap L ∧ ∀ t, Steps p.tables e below (T'.setTop { g with pc := g.pc + 3, stack := v.toList ++ rest }) t → Steps p.tables e below (T.setTop g) t := by
  obtain ⟨cq, kq, qa, qb, qc⟩ := isOf hZ eT E
  obtain ⟨v, _, ⟨T3, L3, k3, n3⟩, -, X3, ⟨Lc3, hQ3, l3, y3, z3⟩, st3⟩ := X.virtualBack hx (y := y) (z := z) hown (mvT hZ w1) (mvT hZ w2) hnf (mvT hZ ws) (mvT hZ wi) hy (backOf (W := W) hM hZ w4 w3 hf hl) qa qc hg hsz (Steps.refl _) hlen hstack hW hd (fun _ _ => ⟨ha, eT, hc, hs⟩)
  dsimp only [Pt.U, Pt.locs, Pt.cells, Pt.slots] at X3 l3 y3 z3 st3 hQ3
  subst l3 y3 z3
  exact ⟨v, T3, Lc3, X3, hQ3, fun t k => st3.trans k⟩
theorem own_callVP {C : String} {v0 : Option Value} (X : Stand p l e R s m args below meth c T locs cells slots) (hx : p.tables.exec = Jvm.exec) (hZ : Z.Warmed39 s.vm) (hown : s.vm.findClass own = some m.cls)
    (w1 : (Jvm.Cond.methodLink own index y).before a0 Z = true) (w2 : (Jvm.Cond.declares y).before a0 Z = true) (hnf : NotFace s y) (ws : (Jvm.Cond.selects C y z).before a0 Z = true) (wi : (Jvm.Cond.instanceMethod z).before a0 Z = true)
    (w4 : (Jvm.Cond.code z bytes ml rt).before a0 Z = true) (w3 : (Jvm.Cond.initialized z.cls).before a0 Z = true)
    (hy : y.cls ≠ "java/lang/invoke/MethodHandle" ∧ y.cls ≠ "java/lang/invoke/VarHandle") (hM : OPure l Z z bytes ml rt [] rm as h v0) (hf : rm.frames + 1 ≤ R.frames) (hl : W + (ml + 11) + rm.locals ≤ R.locals) {a : Addr} (E : Exa Z h a C)
    {g : JFrame} (hg : g.method = m) (hsz : g.locals.size = c.maxLocals) {argsL rest : List Value} (hlen : ∀ sig, parseMethodDescriptor y.desc = some sig → argsL.length = sig.parameters.length) (hstack : g.stack = argsL.reverse ++ .ref a :: rest)
    (hW : 2 * g.monitorRoom + (rest.map fun v => v.category).sum ≤ W) (hd : decode c.code g.pc = .ok (.invokevirtual index, 3)) (ha : (.ref a :: argsL).toArray = as) (eT : T.heap = h) (hc : cells + rm.cells ≤ R.cells) (hs : slots + rm.slots ≤ R.slots) :
    ∃ T', Stand p l e R s m args below meth c T' locs (cells + rm.cells) (slots + rm.slots) ∧ T'.heap = h ∧ ∀ t, Steps p.tables e below (T'.setTop { g with pc := g.pc + 3, stack := v0.toList ++ rest }) t → Steps p.tables e below (T.setTop g) t := by
  obtain ⟨v, T', L, X', ⟨rfl, rfl, e'⟩, st⟩ := own_callV X hx hZ hown w1 w2 hnf ws wi w4 w3 hy hM hf hl E hg hsz hlen hstack hW hd ha eT hc hs
  rw [List.append_nil] at X'
  exact ⟨T', X', e', st⟩
theorem own_callR (X : Stand p l e R s m args below meth c T locs cells slots) (hx : p.tables.exec = Jvm.exec) (hZ : Z.Warmed39 s.vm) (hown : s.vm.findClass own = some m.cls)
    (w1 : (Jvm.Cond.methodLink own index y).before a0 Z = true) (w2 : (Jvm.Cond.instanceMethod y).before a0 Z = true) (ws : (Jvm.Cond.selects y.cls y y).before a0 Z = true) (wp : (Jvm.Cond.privateMethod y).before a0 Z = true)
    (w4 : (Jvm.Cond.code y bytes ml rt).before a0 Z = true) (w3 : (Jvm.Cond.initialized y.cls).before a0 Z = true)
    (hy : y.cls ≠ "java/lang/invoke/MethodHandle" ∧ y.cls ≠ "java/lang/invoke/VarHandle") (hM : OMet l Z y bytes ml rt [] rm as h Q) (hf : rm.frames + 1 ≤ R.frames) (hl : W + (ml + 11) + rm.locals ≤ R.locals) {a : Addr} {C : String} (E : Exa Z h a C)
    {g : JFrame} (hg : g.method = m) (hsz : g.locals.size = c.maxLocals) {argsL rest : List Value} (hlen : ∀ sig, parseMethodDescriptor y.desc = some sig → argsL.length = sig.parameters.length) (hstack : g.stack = argsL.reverse ++ .ref a :: rest)
    (hW : 2 * g.monitorRoom + (rest.map fun v => v.category).sum ≤ W) (hd : decode c.code g.pc = .ok (.invokevirtual index, 3)) (ha : (.ref a :: argsL).toArray = as) (eT : T.heap = h) (hc : cells + rm.cells ≤ R.cells) (hs : slots + rm.slots ≤ R.slots) :
    ∃ v T' L, Stand p l e R s m args below meth c T' (locs ++ L) (cells + rm.cells) (slots + rm.slots) ∧ Q v T'.heap L ∧ ∀ t, Steps p.tables e below (T'.setTop { g with pc := g.pc + 3, stack := v.toList ++ rest }) t → Steps p.tables e below (T.setTop g) t := by
  obtain ⟨cq, qa, qb⟩ := E.cell
  obtain ⟨v, _, ⟨T3, L3, k3, n3⟩, -, X3, ⟨Lc3, hQ3, l3, y3, z3⟩, st3⟩ := X.privateBack hx (y := y) hown (mvT hZ w1) (mvT hZ w2) (mvT hZ ws) (Cond.privateMethod_at (mvP hZ wp (args := #[]))) (mvT hZ w4) hy (backOf (W := W) hM hZ w4 w3 hf hl) hg hsz (Steps.refl _) (a := a) (by rw [eT]; exact qa) qb hlen hstack hW hd (fun _ _ => ⟨ha, eT, hc, hs⟩)
  dsimp only [Pt.U, Pt.locs, Pt.cells, Pt.slots] at X3 l3 y3 z3 st3 hQ3
  subst l3 y3 z3
  exact ⟨v, T3, Lc3, X3, hQ3, fun t k => st3.trans k⟩
theorem own_callRP {v0 : Option Value} (X : Stand p l e R s m args below meth c T locs cells slots) (hx : p.tables.exec = Jvm.exec) (hZ : Z.Warmed39 s.vm) (hown : s.vm.findClass own = some m.cls)
    (w1 : (Jvm.Cond.methodLink own index y).before a0 Z = true) (w2 : (Jvm.Cond.instanceMethod y).before a0 Z = true) (ws : (Jvm.Cond.selects y.cls y y).before a0 Z = true) (wp : (Jvm.Cond.privateMethod y).before a0 Z = true)
    (w4 : (Jvm.Cond.code y bytes ml rt).before a0 Z = true) (w3 : (Jvm.Cond.initialized y.cls).before a0 Z = true)
    (hy : y.cls ≠ "java/lang/invoke/MethodHandle" ∧ y.cls ≠ "java/lang/invoke/VarHandle") (hM : OPure l Z y bytes ml rt [] rm as h v0) (hf : rm.frames + 1 ≤ R.frames) (hl : W + (ml + 11) + rm.locals ≤ R.locals) {a : Addr} {C : String} (E : Exa Z h a C)
    {g : JFrame} (hg : g.method = m) (hsz : g.locals.size = c.maxLocals) {argsL rest : List Value} (hlen : ∀ sig, parseMethodDescriptor y.desc = some sig → argsL.length = sig.parameters.length) (hstack : g.stack = argsL.reverse ++ .ref a :: rest)
    (hW : 2 * g.monitorRoom + (rest.map fun v => v.category).sum ≤ W) (hd : decode c.code g.pc = .ok (.invokevirtual index, 3)) (ha : (.ref a :: argsL).toArray = as) (eT : T.heap = h) (hc : cells + rm.cells ≤ R.cells) (hs : slots + rm.slots ≤ R.slots) :
    ∃ T', Stand p l e R s m args below meth c T' locs (cells + rm.cells) (slots + rm.slots) ∧ T'.heap = h ∧ ∀ t, Steps p.tables e below (T'.setTop { g with pc := g.pc + 3, stack := v0.toList ++ rest }) t → Steps p.tables e below (T.setTop g) t := by
  obtain ⟨v, T', L, X', ⟨rfl, rfl, e'⟩, st⟩ := own_callR X hx hZ hown w1 w2 ws wp w4 w3 hy hM hf hl E hg hsz hlen hstack hW hd ha eT hc hs
  rw [List.append_nil] at X'
  exact ⟨T', X', e', st⟩
/-- the array at a has n places; place j holds f j -/
def OAr (Z : State) (h : Heap) (a : Addr) (ty : FieldType) (n : Nat) (f : Nat → Value) : Prop := ∃ c : Cell, Arr Z h a c ty ∧ c.slots.size = n ∧ ∀ j, j < n → c.slots[j]? = some (f j)
section OwnArr
variable {h' : Heap} {a b : Addr} {ty : FieldType} {n sl : Nat} {f f' : Nat → Value} {v : Value} {k : ClassId} {i : Int32}
theorem OAr.lt (F : OAr Z h a ty n f) : a < h.size := by obtain ⟨c, A, -⟩ := F; exact A.lt
theorem OAr.ext (F : OAr Z h a ty n f) (E : Ext h h') : OAr Z h' a ty n f := by obtain ⟨c, A, r⟩ := F; exact ⟨c, A.ext E, r⟩
theorem OAr.other (F : OAr Z h a ty n f) (W : Wr h h' b sl v) (q : a ≠ b) : OAr Z h' a ty n f := by obtain ⟨c, A, r⟩ := F; exact ⟨c, A.other W q, r⟩
theorem OAr.keep {ws : List Addr} (F : OAr Z h a ty n f) (K : Keep h h' ws) (q : a ∉ ws) : OAr Z h' a ty n f := by obtain ⟨c, A, r⟩ := F; exact ⟨c, ⟨K.2.1 a c A.1 q, A.2⟩, r⟩
theorem OAr.cong (F : OAr Z h a ty n f) (q : ∀ j, j < n → f j = f' j) : OAr Z h a ty n f' := by obtain ⟨c, A, S, H⟩ := F; exact ⟨c, A, S, fun j hj => by rw [← q j hj]; exact H j hj⟩
theorem OAr.new (A : Arr Z h a (newA k ty i) ty) : OAr Z h a ty i.toNatClampNeg (fun _ => defaultValue ty) := ⟨_, A, sz_new _ _ _, fun j hj => by simp [newA, hj]⟩
theorem OAr.set {c : Cell} (A : Arr Z h a c ty) (S : c.slots.size = n) (H : ∀ j, j < n → c.slots[j]? = some (f j)) (W : Wr h h' a sl v) : OAr Z h' a ty n (fun j => if j = sl then v else f j) := by
  refine ⟨_, A.same W, by rw [sz_set]; exact S, fun j hj => ?_⟩
  by_cases q : j = sl
  · subst q
    simp [Cell.setSlot, S, hj]
  · simp only [q, if_false, Cell.setSlot]
    rw [Array.getElem?_setIfInBounds_ne (Ne.symm q)]
    exact H j hj
theorem own_in {c : Cell} (S : c.slots.size = n) (h0 : ¬ i < 0) (h1 : i.toNatClampNeg < n) : ¬ (i < 0 ∨ c.slots.size ≤ i.toNatClampNeg) := by
  rintro (q | q)
  · exact h0 q
  · omega
/-- the clone of an array -/
theorem own_clone {own ad : String} {index : Nat} (X : Stand p l e R s m args below meth c T locs cells slots) (hx : p.tables.exec = Jvm.exec) (hZ : Z.Warmed39 s.vm) (hown : s.vm.findClass own = some m.cls)
    (w1 : (Jvm.Cond.methodLink own index ⟨ad, "clone", "()Ljava/lang/Object;"⟩).before a0 Z = true) (w2 : (Jvm.Cond.sameMethod ad "java/lang/Object" "clone" "()Ljava/lang/Object;").before a0 Z = true) (w3 : (Jvm.Cond.native ⟨"java/lang/Object", "clone", "()Ljava/lang/Object;"⟩).before a0 Z = true)
    (w4 : (Jvm.Cond.instanceMethod ⟨"java/lang/Object", "clone", "()Ljava/lang/Object;"⟩).before a0 Z = true) (w5 : (Jvm.Cond.selects ad ⟨ad, "clone", "()Ljava/lang/Object;"⟩ ⟨"java/lang/Object", "clone", "()Ljava/lang/Object;"⟩).before a0 Z = true) (w6 : (Jvm.Cond.castable ad "java/lang/Cloneable").before a0 Z = true)
    (eT : T.heap = h) (F : OAr Z h a ty n f) (E : Exa Z h a ad) (hfit : ∀ j, j < n → fits ty (f j) = true) {g : JFrame} (hg : g.method = m) (hsize : g.locals.size = c.maxLocals) {rest : List Value} (hst : g.stack = .ref a :: rest) (hd : decode c.code g.pc = .ok (.invokevirtual index, 3))
    (hf : 1 ≤ R.frames) {W : Nat} (hW : 2 * g.monitorRoom + (rest.map fun v => v.category).sum ≤ W) (hl : W + 14 ≤ R.locals) {cap : Nat} (hcap : n ≤ cap) (hc : cells + 1 ≤ R.cells) (hsl : slots + cap ≤ R.slots) :
    ∃ T' h', Stand p l e R s m args below meth c T' locs (cells + 1) (slots + cap) ∧ T'.heap = h' ∧ Ext h h' ∧ OAr Z h' h.size ty n f ∧ Exa Z h' h.size ad ∧
      ∀ target, Steps p.tables e below (T'.setTop { g with pc := g.pc + 3, stack := .ref h.size :: rest }) target → Steps p.tables e below (T.setTop g) target := by
  obtain ⟨cl, A, S, H⟩ := F
  have FC : FitC Z cl := fitC_of A fun i hi v hv => by rw [H i (S ▸ hi)] at hv; cases hv; exact hfit i (S ▸ hi)
  obtain ⟨T', h', X', e', ex, A', E', st⟩ := cloneA X hx hZ hown w1 w2 w3 w4 w5 w6 eT A E FC hg hsize hst hd hf hW hl (cap := cap) (by rw [S]; exact hcap) hc hsl
  exact ⟨T', h', X', e', ex, ⟨cloneOf cl, A', S, H⟩, E', st⟩
end OwnArr
theorem own_nat {i : Nat} (hi : i < 2 ^ 31) : (Int32.ofNat i).toNatClampNeg = i ∧ ¬ Int32.ofNat i < 0 ∧ (Int32.ofNat i).toInt = i := by
  have q : (Int32.ofNat i).toInt = i := Int32.toInt_ofNat_of_lt hi
  have z : (0 : Int32).toInt = 0 := by decide
  refine ⟨by rw [Int32.toNatClampNeg, q]; simp, ?_, q⟩
  rw [Int32.lt_iff_toInt_lt, q, z]; omega
theorem own_lt {i n : Nat} (hi : i < 2 ^ 31) (hn : n < 2 ^ 31) : Int32.ofNat i < Int32.ofNat n ↔ i < n := by
  rw [Int32.lt_iff_toInt_lt, (own_nat hi).2.2, (own_nat hn).2.2]; omega
theorem own_up (i : Nat) : Int32.ofNat i + (1 : Int32) = Int32.ofNat (i + 1) := (Int32.ofNat_add i 1).symm
/-- a static stands where none of the written cells holds statics -/
theorem own_sta_keep {h' : Heap} {C n d : String} {v : Value} {ws : List Addr} (F : Sta Z h C n d v) (K : Keep h h' ws) (q : ∀ w ∈ ws, ∃ c : Cell, h[w]? = some c ∧ c.vm.isStatics = false) : Sta Z h' C n d v := by
  obtain ⟨cf, i, k, f, st, cell, h1, h2, h3, h4, h5, h6, h7⟩ := F
  refine ⟨cf, i, k, f, st, cell, h1, h2, h3, h4, K.2.1 st cell h5 (fun z => ?_), h6, h7⟩
  obtain ⟨c, e1, e2⟩ := q st z
  rw [h5] at e1; cases e1
  rw [h6] at e2; cases e2
theorem own_pl_exa {a : Addr} {C : String} (E : Exa Z h a C) : ∃ c : Cell, h[a]? = some c ∧ c.vm.isStatics = false := by obtain ⟨c, k, h1, -, -, h4, -⟩ := E; exact ⟨c, h1, h4⟩
theorem own_pl_arr {a : Addr} {ty : FieldType} {n : Nat} {f : Nat → Value} (F : OAr Z h a ty n f) : ∃ c : Cell, h[a]? = some c ∧ c.vm.isStatics = false := by obtain ⟨c, A, -⟩ := F; exact ⟨c, A.1, A.plain⟩
theorem own_shr0 (x : Int32) : x >>> ((0 : Int32) &&& 31) = x := Int32.toInt_inj.mp (by rw [c_ishr x 0 0 (by decide)]; simp)
abbrev OLawQ (n0 : Nat) : Option Value → Heap → List Loc → Prop := fun v _ L => v = some (.int (1 : Int32)) ∧ Fr n0 L
/-- a boolean as the machine's int -/
def OB (b : Bool) : Int32 := if b then 1 else 0
theorem own_b1 : nar .boolean (1 : Int32) = 1 := by decide
theorem own_b0 : nar .boolean (0 : Int32) = 0 := by decide
theorem own_nb (b : Bool) : nar .boolean (OB b) = OB b := by cases b <;> decide
end OwnKit
theorem d1_0 : decode prog_9_method_1_code 0 = .ok (.aload_n 0, 1) := by decide +kernel
theorem d1_1 : decode prog_9_method_1_code 1 = .ok (.invokespecial 1, 3) := by decide +kernel
theorem d1_4 : decode prog_9_method_1_code 4 = .ok (.aload_n 0, 1) := by decide +kernel
theorem d1_5 : decode prog_9_method_1_code 5 = .ok (.iconst (-1), 1) := by decide +kernel
theorem d1_6 : decode prog_9_method_1_code 6 = .ok (.putfield 9, 3) := by decide +kernel
theorem d1_9 : decode prog_9_method_1_code 9 = .ok (.aload_n 0, 1) := by decide +kernel
theorem d1_10 : decode prog_9_method_1_code 10 = .ok (.iconst (-1), 1) := by decide +kernel
theorem d1_11 : decode prog_9_method_1_code 11 = .ok (.putfield 15, 3) := by decide +kernel
theorem d1_14 : decode prog_9_method_1_code 14 = .ok (.aload_n 0, 1) := by decide +kernel
theorem d1_15 : decode prog_9_method_1_code 15 = .ok (.aload_n 1, 1) := by decide +kernel
theorem d1_16 : decode prog_9_method_1_code 16 = .ok (.putfield 18, 3) := by decide +kernel
theorem d1_19 : decode prog_9_method_1_code 19 = .ok (.aload_n 0, 1) := by decide +kernel
theorem d1_20 : decode prog_9_method_1_code 20 = .ok (.aload_n 2, 1) := by decide +kernel
theorem d1_21 : decode prog_9_method_1_code 21 = .ok (.putfield 22, 3) := by decide +kernel
theorem d1_24 : decode prog_9_method_1_code 24 = .ok (.aload_n 0, 1) := by decide +kernel
theorem d1_25 : decode prog_9_method_1_code 25 = .ok (.lload_n 3, 1) := by decide +kernel
theorem d1_26 : decode prog_9_method_1_code 26 = .ok (.putfield 26, 3) := by decide +kernel
theorem d1_29 : decode prog_9_method_1_code 29 = .ok (.aload_n 0, 1) := by decide +kernel
theorem d1_30 : decode prog_9_method_1_code 30 = .ok (.iload 5, 2) := by decide +kernel
theorem d1_32 : decode prog_9_method_1_code 32 = .ok (.putfield 30, 3) := by decide +kernel
theorem d1_35 : decode prog_9_method_1_code 35 = .ok (.return_, 1) := by decide +kernel
theorem pn_com_example_kurslot_kurslot_book_PriceLevel : plainName "com/example/kurslot/kurslot/book/PriceLevel" = true := by first | (simp [plainName, overriddenIn]; done) | decide +kernel
theorem ef_1_R0RJI (m : MethodId) (x0 : Addr) (x2 : Addr) (x3 : Int64) (x4 : Int32) : entryFrame m #[(.ref x0), .null, (.ref x2), (.long x3), (.int x4)] 6 = mkF m 0 #[.val (.ref x0), .val .null, .val (.ref x2), .val (.long x3), .second, .val (.int x4)] [] := by first | (simp [entryFrame, mkF, argsToLocals, Value.category]; done) | rfl
set_option maxRecDepth 65536 in
set_option maxHeartbeats 40000000 in
theorem rm1 (l : Launch) (Z : State) (a0 : Array Value) (hw : ∀ d ∈ tables_1, d.before a0 Z = true) (a1 : Addr) (a3 : Addr) (q4 : Int64) (q5 : Int32) (h0 : Heap) (n0 : Nat) (Z0 : n0 ≤ h0.size) (old_a1 : n0 ≤ a1) (E_a1 : Exa Z h0 a1 "com/example/kurslot/kurslot/book/PriceLevel") (F_better_a1 : Fld Z h0 a1 "com/example/kurslot/kurslot/book/PriceLevel" "better" "Lcom/example/kurslot/kurslot/book/PriceLevel;" .null) (F_worse_a1 : Fld Z h0 a1 "com/example/kurslot/kurslot/book/PriceLevel" "worse" "Lcom/example/kurslot/kurslot/book/PriceLevel;" .null) (F_first_a1 : Fld Z h0 a1 "com/example/kurslot/kurslot/book/PriceLevel" "first" "I" (.int (0 : Int32))) (F_last_a1 : Fld Z h0 a1 "com/example/kurslot/kurslot/book/PriceLevel" "last" "I" (.int (0 : Int32))) (F_book_a1 : Fld Z h0 a1 "com/example/kurslot/kurslot/book/PriceLevel" "book" "Lcom/example/kurslot/kurslot/book/OrderBook;" .null) (F_side_a1 : Fld Z h0 a1 "com/example/kurslot/kurslot/book/PriceLevel" "side" "Lcom/example/kurslot/kurslot/book/Side;" .null) (F_price_a1 : Fld Z h0 a1 "com/example/kurslot/kurslot/book/PriceLevel" "price" "J" (.long (0 : Int64))) (F_number_a1 : Fld Z h0 a1 "com/example/kurslot/kurslot/book/PriceLevel" "number" "I" (.int (0 : Int32))) :
    OMet l Z (⟨"com/example/kurslot/kurslot/book/PriceLevel", "<init>", "(Lcom/example/kurslot/kurslot/book/OrderBook;Lcom/example/kurslot/kurslot/book/Side;JI)V"⟩ : MethodName) prog_9_method_1_code 6 none [] ({ frames := 1, cells := 0, slots := 0, locals := 12 } : Room) #[(.ref a1), .null, (.ref a3), (.long q4), (.int q5)] h0 (fun v h' L => v = none ∧ Fr n0 L ∧ Keep h0 h' [a1] ∧ Exa Z h' a1 "com/example/kurslot/kurslot/book/PriceLevel" ∧ Fld Z h' a1 "com/example/kurslot/kurslot/book/PriceLevel" "better" "Lcom/example/kurslot/kurslot/book/PriceLevel;" .null ∧ Fld Z h' a1 "com/example/kurslot/kurslot/book/PriceLevel" "worse" "Lcom/example/kurslot/kurslot/book/PriceLevel;" .null) := by
  refine own_body (plainFor_of_name pn_com_example_kurslot_kurslot_book_PriceLevel) (fun m => ef_1_R0RJI m a1 a3 q4 q5) ?_
  intro p e s m below meth c T0 hx hby hml hown hnm hret hlk hZ X0 e0
  have hown : s.vm.findClass "com/example/kurslot/kurslot/book/PriceLevel" = some m.cls := hown
  have hml : c.maxLocals = 6 := hml
  have N0 := Fr.nil n0
  have K0 := Keep.refl h0 [a1]
  show OGo p e below s _ _ (T0.setTop (mkF m 0 #[.val (.ref a1), .val .null, .val (.ref a3), .val (.long q4), .second, .val (.int q5)] []))
  refine own_st (fun t k => XS.aloadN X0.here hx rfl (hb hby d1_0) rfl rfl k) ?_
  show OGo p e below s _ _ (T0.setTop (mkF m 1 #[.val (.ref a1), .val .null, .val (.ref a3), .val (.long q4), .second, .val (.int q5)] [(.ref a1)]))
  obtain ⟨T1, X1, e1, st1⟩ := initO X0 hx hZ hown (hw _ (List.mem_of_getElem? (i := 10) rfl)) (hw _ (List.mem_of_getElem? (i := 11) rfl)) (hw _ (List.mem_of_getElem? (i := 12) rfl)) e0 (g := (mkF m 1 #[.val (.ref a1), .val .null, .val (.ref a3), .val (.long q4), .second, .val (.int q5)] [(.ref a1)])) rfl (by rw [hml]; rfl) rfl (hb hby d1_1) (by decide) (W := 0) (by show 2 * 0 + _ ≤ _; exact Nat.le_of_eq rfl) (by decide)
  refine own_st st1 ?_
  show OGo p e below s _ _ (T1.setTop (mkF m 4 #[.val (.ref a1), .val .null, .val (.ref a3), .val (.long q4), .second, .val (.int q5)] []))
  refine own_st (fun t k => XS.aloadN X1.here hx rfl (hb hby d1_4) rfl rfl k) ?_
  show OGo p e below s _ _ (T1.setTop (mkF m 5 #[.val (.ref a1), .val .null, .val (.ref a3), .val (.long q4), .second, .val (.int q5)] [(.ref a1)]))
  refine own_st (fun t k => XS.iconst X1.here hx rfl (hb hby d1_5) k) ?_
  show OGo p e below s _ _ (T1.setTop (mkF m 6 #[.val (.ref a1), .val .null, .val (.ref a3), .val (.long q4), .second, .val (.int q5)] [(.int (-1 : Int32)), (.ref a1)]))
  obtain ⟨T2, hp2, X2, e2, Ww2, st2⟩ := putF X1 hx hZ hown (host := "") (Or.inl (hw _ (List.mem_of_getElem? (i := 13) rfl))) Via.refl e1 F_first_a1 E_a1 (Or.inl (hw _ (List.mem_of_getElem? (i := 14) rfl))) (hw _ (List.mem_of_getElem? (i := 4) rfl)) (ty := .int) (by decide) rfl rfl (g := (mkF m 6 #[.val (.ref a1), .val .null, .val (.ref a3), .val (.long q4), .second, .val (.int q5)] [(.int (-1 : Int32)), (.ref a1)])) rfl rfl (hb hby d1_6)
  have Nf2 := Fr.snoc X2 N0 old_a1
  have Z0 := Nat.le_trans Z0 (Keep.of_wr Ww2).1
  have K0 := K0.wr Ww2 (Or.inl (List.mem_of_getElem? (i := 0) rfl))
  have E_a1 := E_a1.wr Ww2
  have F_better_a1 := F_better_a1.other Ww2 (Or.inr (slot_ne (Or.inl (hw _ (List.mem_of_getElem? (i := 32) rfl))) (Or.inl (hw _ (List.mem_of_getElem? (i := 14) rfl))) (by decide) (t := (.object "com/example/kurslot/kurslot/book/PriceLevel")) (t' := .int) (by decide) (by decide)))
  have F_worse_a1 := F_worse_a1.other Ww2 (Or.inr (slot_ne (Or.inl (hw _ (List.mem_of_getElem? (i := 34) rfl))) (Or.inl (hw _ (List.mem_of_getElem? (i := 14) rfl))) (by decide) (t := (.object "com/example/kurslot/kurslot/book/PriceLevel")) (t' := .int) (by decide) (by decide)))
  have F_first_a1 := F_first_a1.same Ww2
  have F_last_a1 := F_last_a1.other Ww2 (Or.inr (slot_ne (Or.inl (hw _ (List.mem_of_getElem? (i := 16) rfl))) (Or.inl (hw _ (List.mem_of_getElem? (i := 14) rfl))) (by decide) (t := .int) (t' := .int) (by decide) (by decide)))
  have F_book_a1 := F_book_a1.other Ww2 (Or.inr (slot_ne (Or.inr (hw _ (List.mem_of_getElem? (i := 18) rfl))) (Or.inl (hw _ (List.mem_of_getElem? (i := 14) rfl))) (by decide) (t := (.object "com/example/kurslot/kurslot/book/OrderBook")) (t' := .int) (by decide) (by decide)))
  have F_side_a1 := F_side_a1.other Ww2 (Or.inr (slot_ne (Or.inr (hw _ (List.mem_of_getElem? (i := 20) rfl))) (Or.inl (hw _ (List.mem_of_getElem? (i := 14) rfl))) (by decide) (t := (.object "com/example/kurslot/kurslot/book/Side")) (t' := .int) (by decide) (by decide)))
  have F_price_a1 := F_price_a1.other Ww2 (Or.inr (slot_ne (Or.inr (hw _ (List.mem_of_getElem? (i := 22) rfl))) (Or.inl (hw _ (List.mem_of_getElem? (i := 14) rfl))) (by decide) (t := .long) (t' := .int) (by decide) (by decide)))
  have F_number_a1 := F_number_a1.other Ww2 (Or.inr (slot_ne (Or.inr (hw _ (List.mem_of_getElem? (i := 24) rfl))) (Or.inl (hw _ (List.mem_of_getElem? (i := 14) rfl))) (by decide) (t := .int) (t' := .int) (by decide) (by decide)))
  refine own_st st2 ?_
  show OGo p e below s _ _ (T2.setTop (mkF m 9 #[.val (.ref a1), .val .null, .val (.ref a3), .val (.long q4), .second, .val (.int q5)] []))
  refine own_st (fun t k => XS.aloadN X2.here hx rfl (hb hby d1_9) rfl rfl k) ?_
  show OGo p e below s _ _ (T2.setTop (mkF m 10 #[.val (.ref a1), .val .null, .val (.ref a3), .val (.long q4), .second, .val (.int q5)] [(.ref a1)]))
  refine own_st (fun t k => XS.iconst X2.here hx rfl (hb hby d1_10) k) ?_
  show OGo p e below s _ _ (T2.setTop (mkF m 11 #[.val (.ref a1), .val .null, .val (.ref a3), .val (.long q4), .second, .val (.int q5)] [(.int (-1 : Int32)), (.ref a1)]))
  obtain ⟨T3, hp3, X3, e3, Ww3, st3⟩ := putF X2 hx hZ hown (host := "") (Or.inl (hw _ (List.mem_of_getElem? (i := 15) rfl))) Via.refl e2 F_last_a1 E_a1 (Or.inl (hw _ (List.mem_of_getElem? (i := 16) rfl))) (hw _ (List.mem_of_getElem? (i := 4) rfl)) (ty := .int) (by decide) rfl rfl (g := (mkF m 11 #[.val (.ref a1), .val .null, .val (.ref a3), .val (.long q4), .second, .val (.int q5)] [(.int (-1 : Int32)), (.ref a1)])) rfl rfl (hb hby d1_11)
  have Nf3 := Fr.snoc X3 Nf2 old_a1
  have Z0 := Nat.le_trans Z0 (Keep.of_wr Ww3).1
  have K0 := K0.wr Ww3 (Or.inl (List.mem_of_getElem? (i := 0) rfl))
  have E_a1 := E_a1.wr Ww3
  have F_better_a1 := F_better_a1.other Ww3 (Or.inr (slot_ne (Or.inl (hw _ (List.mem_of_getElem? (i := 32) rfl))) (Or.inl (hw _ (List.mem_of_getElem? (i := 16) rfl))) (by decide) (t := (.object "com/example/kurslot/kurslot/book/PriceLevel")) (t' := .int) (by decide) (by decide)))
  have F_worse_a1 := F_worse_a1.other Ww3 (Or.inr (slot_ne (Or.inl (hw _ (List.mem_of_getElem? (i := 34) rfl))) (Or.inl (hw _ (List.mem_of_getElem? (i := 16) rfl))) (by decide) (t := (.object "com/example/kurslot/kurslot/book/PriceLevel")) (t' := .int) (by decide) (by decide)))
  have F_first_a1 := F_first_a1.other Ww3 (Or.inr (slot_ne (Or.inl (hw _ (List.mem_of_getElem? (i := 14) rfl))) (Or.inl (hw _ (List.mem_of_getElem? (i := 16) rfl))) (by decide) (t := .int) (t' := .int) (by decide) (by decide)))
  have F_last_a1 := F_last_a1.same Ww3
  have F_book_a1 := F_book_a1.other Ww3 (Or.inr (slot_ne (Or.inr (hw _ (List.mem_of_getElem? (i := 18) rfl))) (Or.inl (hw _ (List.mem_of_getElem? (i := 16) rfl))) (by decide) (t := (.object "com/example/kurslot/kurslot/book/OrderBook")) (t' := .int) (by decide) (by decide)))
  have F_side_a1 := F_side_a1.other Ww3 (Or.inr (slot_ne (Or.inr (hw _ (List.mem_of_getElem? (i := 20) rfl))) (Or.inl (hw _ (List.mem_of_getElem? (i := 16) rfl))) (by decide) (t := (.object "com/example/kurslot/kurslot/book/Side")) (t' := .int) (by decide) (by decide)))
  have F_price_a1 := F_price_a1.other Ww3 (Or.inr (slot_ne (Or.inr (hw _ (List.mem_of_getElem? (i := 22) rfl))) (Or.inl (hw _ (List.mem_of_getElem? (i := 16) rfl))) (by decide) (t := .long) (t' := .int) (by decide) (by decide)))
  have F_number_a1 := F_number_a1.other Ww3 (Or.inr (slot_ne (Or.inr (hw _ (List.mem_of_getElem? (i := 24) rfl))) (Or.inl (hw _ (List.mem_of_getElem? (i := 16) rfl))) (by decide) (t := .int) (t' := .int) (by decide) (by decide)))
  refine own_st st3 ?_
  show OGo p e below s _ _ (T3.setTop (mkF m 14 #[.val (.ref a1), .val .null, .val (.ref a3), .val (.long q4), .second, .val (.int q5)] []))
  refine own_st (fun t k => XS.aloadN X3.here hx rfl (hb hby d1_14) rfl rfl k) ?_
  show OGo p e below s _ _ (T3.setTop (mkF m 15 #[.val (.ref a1), .val .null, .val (.ref a3), .val (.long q4), .second, .val (.int q5)] [(.ref a1)]))
  refine own_st (fun t k => XS.aloadN X3.here hx rfl (hb hby d1_15) rfl rfl k) ?_
  show OGo p e below s _ _ (T3.setTop (mkF m 16 #[.val (.ref a1), .val .null, .val (.ref a3), .val (.long q4), .second, .val (.int q5)] [.null, (.ref a1)]))
  obtain ⟨T4, hp4, X4, e4, Ww4, st4⟩ := putF X3 hx hZ hown (host := "") (Or.inl (hw _ (List.mem_of_getElem? (i := 17) rfl))) Via.refl e3 F_book_a1 E_a1 (Or.inr ⟨(hw _ (List.mem_of_getElem? (i := 18) rfl)), rfl, hnm⟩) (hw _ (List.mem_of_getElem? (i := 4) rfl)) (ty := (.object "com/example/kurslot/kurslot/book/OrderBook")) (by decide) rfl rfl (g := (mkF m 16 #[.val (.ref a1), .val .null, .val (.ref a3), .val (.long q4), .second, .val (.int q5)] [.null, (.ref a1)])) rfl rfl (hb hby d1_16)
  have Nf4 := Fr.snoc X4 Nf3 old_a1
  have Z0 := Nat.le_trans Z0 (Keep.of_wr Ww4).1
  have K0 := K0.wr Ww4 (Or.inl (List.mem_of_getElem? (i := 0) rfl))
  have E_a1 := E_a1.wr Ww4
  have F_better_a1 := F_better_a1.other Ww4 (Or.inr (slot_ne (Or.inl (hw _ (List.mem_of_getElem? (i := 32) rfl))) (Or.inr (hw _ (List.mem_of_getElem? (i := 18) rfl))) (by decide) (t := (.object "com/example/kurslot/kurslot/book/PriceLevel")) (t' := (.object "com/example/kurslot/kurslot/book/OrderBook")) (by decide) (by decide)))
  have F_worse_a1 := F_worse_a1.other Ww4 (Or.inr (slot_ne (Or.inl (hw _ (List.mem_of_getElem? (i := 34) rfl))) (Or.inr (hw _ (List.mem_of_getElem? (i := 18) rfl))) (by decide) (t := (.object "com/example/kurslot/kurslot/book/PriceLevel")) (t' := (.object "com/example/kurslot/kurslot/book/OrderBook")) (by decide) (by decide)))
  have F_first_a1 := F_first_a1.other Ww4 (Or.inr (slot_ne (Or.inl (hw _ (List.mem_of_getElem? (i := 14) rfl))) (Or.inr (hw _ (List.mem_of_getElem? (i := 18) rfl))) (by decide) (t := .int) (t' := (.object "com/example/kurslot/kurslot/book/OrderBook")) (by decide) (by decide)))
  have F_last_a1 := F_last_a1.other Ww4 (Or.inr (slot_ne (Or.inl (hw _ (List.mem_of_getElem? (i := 16) rfl))) (Or.inr (hw _ (List.mem_of_getElem? (i := 18) rfl))) (by decide) (t := .int) (t' := (.object "com/example/kurslot/kurslot/book/OrderBook")) (by decide) (by decide)))
  have F_book_a1 := F_book_a1.same Ww4
  have F_side_a1 := F_side_a1.other Ww4 (Or.inr (slot_ne (Or.inr (hw _ (List.mem_of_getElem? (i := 20) rfl))) (Or.inr (hw _ (List.mem_of_getElem? (i := 18) rfl))) (by decide) (t := (.object "com/example/kurslot/kurslot/book/Side")) (t' := (.object "com/example/kurslot/kurslot/book/OrderBook")) (by decide) (by decide)))
  have F_price_a1 := F_price_a1.other Ww4 (Or.inr (slot_ne (Or.inr (hw _ (List.mem_of_getElem? (i := 22) rfl))) (Or.inr (hw _ (List.mem_of_getElem? (i := 18) rfl))) (by decide) (t := .long) (t' := (.object "com/example/kurslot/kurslot/book/OrderBook")) (by decide) (by decide)))
  have F_number_a1 := F_number_a1.other Ww4 (Or.inr (slot_ne (Or.inr (hw _ (List.mem_of_getElem? (i := 24) rfl))) (Or.inr (hw _ (List.mem_of_getElem? (i := 18) rfl))) (by decide) (t := .int) (t' := (.object "com/example/kurslot/kurslot/book/OrderBook")) (by decide) (by decide)))
  refine own_st st4 ?_
  show OGo p e below s _ _ (T4.setTop (mkF m 19 #[.val (.ref a1), .val .null, .val (.ref a3), .val (.long q4), .second, .val (.int q5)] []))
  refine own_st (fun t k => XS.aloadN X4.here hx rfl (hb hby d1_19) rfl rfl k) ?_
  show OGo p e below s _ _ (T4.setTop (mkF m 20 #[.val (.ref a1), .val .null, .val (.ref a3), .val (.long q4), .second, .val (.int q5)] [(.ref a1)]))
  refine own_st (fun t k => XS.aloadN X4.here hx rfl (hb hby d1_20) rfl rfl k) ?_
  show OGo p e below s _ _ (T4.setTop (mkF m 21 #[.val (.ref a1), .val .null, .val (.ref a3), .val (.long q4), .second, .val (.int q5)] [(.ref a3), (.ref a1)]))
  obtain ⟨T5, hp5, X5, e5, Ww5, st5⟩ := putF X4 hx hZ hown (host := "") (Or.inl (hw _ (List.mem_of_getElem? (i := 19) rfl))) Via.refl e4 F_side_a1 E_a1 (Or.inr ⟨(hw _ (List.mem_of_getElem? (i := 20) rfl)), rfl, hnm⟩) (hw _ (List.mem_of_getElem? (i := 4) rfl)) (ty := (.object "com/example/kurslot/kurslot/book/Side")) (by decide) rfl rfl (g := (mkF m 21 #[.val (.ref a1), .val .null, .val (.ref a3), .val (.long q4), .second, .val (.int q5)] [(.ref a3), (.ref a1)])) rfl rfl (hb hby d1_21)
  have Nf5 := Fr.snoc X5 Nf4 old_a1
  have Z0 := Nat.le_trans Z0 (Keep.of_wr Ww5).1
  have K0 := K0.wr Ww5 (Or.inl (List.mem_of_getElem? (i := 0) rfl))
  have E_a1 := E_a1.wr Ww5
  have F_better_a1 := F_better_a1.other Ww5 (Or.inr (slot_ne (Or.inl (hw _ (List.mem_of_getElem? (i := 32) rfl))) (Or.inr (hw _ (List.mem_of_getElem? (i := 20) rfl))) (by decide) (t := (.object "com/example/kurslot/kurslot/book/PriceLevel")) (t' := (.object "com/example/kurslot/kurslot/book/Side")) (by decide) (by decide)))
  have F_worse_a1 := F_worse_a1.other Ww5 (Or.inr (slot_ne (Or.inl (hw _ (List.mem_of_getElem? (i := 34) rfl))) (Or.inr (hw _ (List.mem_of_getElem? (i := 20) rfl))) (by decide) (t := (.object "com/example/kurslot/kurslot/book/PriceLevel")) (t' := (.object "com/example/kurslot/kurslot/book/Side")) (by decide) (by decide)))
  have F_first_a1 := F_first_a1.other Ww5 (Or.inr (slot_ne (Or.inl (hw _ (List.mem_of_getElem? (i := 14) rfl))) (Or.inr (hw _ (List.mem_of_getElem? (i := 20) rfl))) (by decide) (t := .int) (t' := (.object "com/example/kurslot/kurslot/book/Side")) (by decide) (by decide)))
  have F_last_a1 := F_last_a1.other Ww5 (Or.inr (slot_ne (Or.inl (hw _ (List.mem_of_getElem? (i := 16) rfl))) (Or.inr (hw _ (List.mem_of_getElem? (i := 20) rfl))) (by decide) (t := .int) (t' := (.object "com/example/kurslot/kurslot/book/Side")) (by decide) (by decide)))
  have F_book_a1 := F_book_a1.other Ww5 (Or.inr (slot_ne (Or.inr (hw _ (List.mem_of_getElem? (i := 18) rfl))) (Or.inr (hw _ (List.mem_of_getElem? (i := 20) rfl))) (by decide) (t := (.object "com/example/kurslot/kurslot/book/OrderBook")) (t' := (.object "com/example/kurslot/kurslot/book/Side")) (by decide) (by decide)))
  have F_side_a1 := F_side_a1.same Ww5
  have F_price_a1 := F_price_a1.other Ww5 (Or.inr (slot_ne (Or.inr (hw _ (List.mem_of_getElem? (i := 22) rfl))) (Or.inr (hw _ (List.mem_of_getElem? (i := 20) rfl))) (by decide) (t := .long) (t' := (.object "com/example/kurslot/kurslot/book/Side")) (by decide) (by decide)))
  have F_number_a1 := F_number_a1.other Ww5 (Or.inr (slot_ne (Or.inr (hw _ (List.mem_of_getElem? (i := 24) rfl))) (Or.inr (hw _ (List.mem_of_getElem? (i := 20) rfl))) (by decide) (t := .int) (t' := (.object "com/example/kurslot/kurslot/book/Side")) (by decide) (by decide)))
  refine own_st st5 ?_
  show OGo p e below s _ _ (T5.setTop (mkF m 24 #[.val (.ref a1), .val .null, .val (.ref a3), .val (.long q4), .second, .val (.int q5)] []))
  refine own_st (fun t k => XS.aloadN X5.here hx rfl (hb hby d1_24) rfl rfl k) ?_
  show OGo p e below s _ _ (T5.setTop (mkF m 25 #[.val (.ref a1), .val .null, .val (.ref a3), .val (.long q4), .second, .val (.int q5)] [(.ref a1)]))
  refine own_st (fun t k => XS.lloadN X5.here hx rfl (hb hby d1_25) rfl k) ?_
  show OGo p e below s _ _ (T5.setTop (mkF m 26 #[.val (.ref a1), .val .null, .val (.ref a3), .val (.long q4), .second, .val (.int q5)] [(.long q4), (.ref a1)]))
  obtain ⟨T6, hp6, X6, e6, Ww6, st6⟩ := putF X5 hx hZ hown (host := "") (Or.inl (hw _ (List.mem_of_getElem? (i := 21) rfl))) Via.refl e5 F_price_a1 E_a1 (Or.inr ⟨(hw _ (List.mem_of_getElem? (i := 22) rfl)), rfl, hnm⟩) (hw _ (List.mem_of_getElem? (i := 4) rfl)) (ty := .long) (by decide) rfl rfl (g := (mkF m 26 #[.val (.ref a1), .val .null, .val (.ref a3), .val (.long q4), .second, .val (.int q5)] [(.long q4), (.ref a1)])) rfl rfl (hb hby d1_26)
  have Nf6 := Fr.snoc X6 Nf5 old_a1
  have Z0 := Nat.le_trans Z0 (Keep.of_wr Ww6).1
  have K0 := K0.wr Ww6 (Or.inl (List.mem_of_getElem? (i := 0) rfl))
  have E_a1 := E_a1.wr Ww6
  have F_better_a1 := F_better_a1.other Ww6 (Or.inr (slot_ne (Or.inl (hw _ (List.mem_of_getElem? (i := 32) rfl))) (Or.inr (hw _ (List.mem_of_getElem? (i := 22) rfl))) (by decide) (t := (.object "com/example/kurslot/kurslot/book/PriceLevel")) (t' := .long) (by decide) (by decide)))
  have F_worse_a1 := F_worse_a1.other Ww6 (Or.inr (slot_ne (Or.inl (hw _ (List.mem_of_getElem? (i := 34) rfl))) (Or.inr (hw _ (List.mem_of_getElem? (i := 22) rfl))) (by decide) (t := (.object "com/example/kurslot/kurslot/book/PriceLevel")) (t' := .long) (by decide) (by decide)))
  have F_first_a1 := F_first_a1.other Ww6 (Or.inr (slot_ne (Or.inl (hw _ (List.mem_of_getElem? (i := 14) rfl))) (Or.inr (hw _ (List.mem_of_getElem? (i := 22) rfl))) (by decide) (t := .int) (t' := .long) (by decide) (by decide)))
  have F_last_a1 := F_last_a1.other Ww6 (Or.inr (slot_ne (Or.inl (hw _ (List.mem_of_getElem? (i := 16) rfl))) (Or.inr (hw _ (List.mem_of_getElem? (i := 22) rfl))) (by decide) (t := .int) (t' := .long) (by decide) (by decide)))
  have F_book_a1 := F_book_a1.other Ww6 (Or.inr (slot_ne (Or.inr (hw _ (List.mem_of_getElem? (i := 18) rfl))) (Or.inr (hw _ (List.mem_of_getElem? (i := 22) rfl))) (by decide) (t := (.object "com/example/kurslot/kurslot/book/OrderBook")) (t' := .long) (by decide) (by decide)))
  have F_side_a1 := F_side_a1.other Ww6 (Or.inr (slot_ne (Or.inr (hw _ (List.mem_of_getElem? (i := 20) rfl))) (Or.inr (hw _ (List.mem_of_getElem? (i := 22) rfl))) (by decide) (t := (.object "com/example/kurslot/kurslot/book/Side")) (t' := .long) (by decide) (by decide)))
  have F_price_a1 := F_price_a1.same Ww6
  have F_number_a1 := F_number_a1.other Ww6 (Or.inr (slot_ne (Or.inr (hw _ (List.mem_of_getElem? (i := 24) rfl))) (Or.inr (hw _ (List.mem_of_getElem? (i := 22) rfl))) (by decide) (t := .int) (t' := .long) (by decide) (by decide)))
  refine own_st st6 ?_
  show OGo p e below s _ _ (T6.setTop (mkF m 29 #[.val (.ref a1), .val .null, .val (.ref a3), .val (.long q4), .second, .val (.int q5)] []))
  refine own_st (fun t k => XS.aloadN X6.here hx rfl (hb hby d1_29) rfl rfl k) ?_
  show OGo p e below s _ _ (T6.setTop (mkF m 30 #[.val (.ref a1), .val .null, .val (.ref a3), .val (.long q4), .second, .val (.int q5)] [(.ref a1)]))
  refine own_st (fun t k => XS.iload X6.here hx rfl (hb hby d1_30) rfl k) ?_
  show OGo p e below s _ _ (T6.setTop (mkF m 32 #[.val (.ref a1), .val .null, .val (.ref a3), .val (.long q4), .second, .val (.int q5)] [(.int q5), (.ref a1)]))
  obtain ⟨T7, hp7, X7, e7, Ww7, st7⟩ := putF X6 hx hZ hown (host := "") (Or.inl (hw _ (List.mem_of_getElem? (i := 23) rfl))) Via.refl e6 F_number_a1 E_a1 (Or.inr ⟨(hw _ (List.mem_of_getElem? (i := 24) rfl)), rfl, hnm⟩) (hw _ (List.mem_of_getElem? (i := 4) rfl)) (ty := .int) (by decide) rfl rfl (g := (mkF m 32 #[.val (.ref a1), .val .null, .val (.ref a3), .val (.long q4), .second, .val (.int q5)] [(.int q5), (.ref a1)])) rfl rfl (hb hby d1_32)
  have Nf7 := Fr.snoc X7 Nf6 old_a1
  have Z0 := Nat.le_trans Z0 (Keep.of_wr Ww7).1
  have K0 := K0.wr Ww7 (Or.inl (List.mem_of_getElem? (i := 0) rfl))
  have E_a1 := E_a1.wr Ww7
  have F_better_a1 := F_better_a1.other Ww7 (Or.inr (slot_ne (Or.inl (hw _ (List.mem_of_getElem? (i := 32) rfl))) (Or.inr (hw _ (List.mem_of_getElem? (i := 24) rfl))) (by decide) (t := (.object "com/example/kurslot/kurslot/book/PriceLevel")) (t' := .int) (by decide) (by decide)))
  have F_worse_a1 := F_worse_a1.other Ww7 (Or.inr (slot_ne (Or.inl (hw _ (List.mem_of_getElem? (i := 34) rfl))) (Or.inr (hw _ (List.mem_of_getElem? (i := 24) rfl))) (by decide) (t := (.object "com/example/kurslot/kurslot/book/PriceLevel")) (t' := .int) (by decide) (by decide)))
  have F_first_a1 := F_first_a1.other Ww7 (Or.inr (slot_ne (Or.inl (hw _ (List.mem_of_getElem? (i := 14) rfl))) (Or.inr (hw _ (List.mem_of_getElem? (i := 24) rfl))) (by decide) (t := .int) (t' := .int) (by decide) (by decide)))
  have F_last_a1 := F_last_a1.other Ww7 (Or.inr (slot_ne (Or.inl (hw _ (List.mem_of_getElem? (i := 16) rfl))) (Or.inr (hw _ (List.mem_of_getElem? (i := 24) rfl))) (by decide) (t := .int) (t' := .int) (by decide) (by decide)))
  have F_book_a1 := F_book_a1.other Ww7 (Or.inr (slot_ne (Or.inr (hw _ (List.mem_of_getElem? (i := 18) rfl))) (Or.inr (hw _ (List.mem_of_getElem? (i := 24) rfl))) (by decide) (t := (.object "com/example/kurslot/kurslot/book/OrderBook")) (t' := .int) (by decide) (by decide)))
  have F_side_a1 := F_side_a1.other Ww7 (Or.inr (slot_ne (Or.inr (hw _ (List.mem_of_getElem? (i := 20) rfl))) (Or.inr (hw _ (List.mem_of_getElem? (i := 24) rfl))) (by decide) (t := (.object "com/example/kurslot/kurslot/book/Side")) (t' := .int) (by decide) (by decide)))
  have F_price_a1 := F_price_a1.other Ww7 (Or.inr (slot_ne (Or.inr (hw _ (List.mem_of_getElem? (i := 22) rfl))) (Or.inr (hw _ (List.mem_of_getElem? (i := 24) rfl))) (by decide) (t := .long) (t' := .int) (by decide) (by decide)))
  have F_number_a1 := F_number_a1.same Ww7
  refine own_st st7 ?_
  show OGo p e below s _ _ (T7.setTop (mkF m 35 #[.val (.ref a1), .val .null, .val (.ref a3), .val (.long q4), .second, .val (.int q5)] []))
  exact own_retV X7 hx hlk hret (hb hby d1_35) (by decide) (by decide) (⟨rfl, Nf7, (by rw [e7]; exact K0), (by rw [e7]; exact E_a1), (by rw [e7]; exact F_better_a1), (by rw [e7]; exact F_worse_a1)⟩)
theorem d3_0 : decode prog_9_method_14_code 0 = .ok (.aload_n 0, 1) := by decide +kernel
theorem d3_1 : decode prog_9_method_14_code 1 = .ok (.aload_n 1, 1) := by decide +kernel
theorem d3_2 : decode prog_9_method_14_code 2 = .ok (.putfield 40, 3) := by decide +kernel
theorem d3_5 : decode prog_9_method_14_code 5 = .ok (.aload_n 0, 1) := by decide +kernel
theorem d3_6 : decode prog_9_method_14_code 6 = .ok (.aload_n 2, 1) := by decide +kernel
theorem d3_7 : decode prog_9_method_14_code 7 = .ok (.putfield 36, 3) := by decide +kernel
theorem d3_10 : decode prog_9_method_14_code 10 = .ok (.aload_n 1, 1) := by decide +kernel
theorem d3_11 : decode prog_9_method_14_code 11 = .ok (.ifnull 8, 3) := by decide +kernel
theorem d3_19 : decode prog_9_method_14_code 19 = .ok (.aload_n 2, 1) := by decide +kernel
theorem d3_20 : decode prog_9_method_14_code 20 = .ok (.ifnull 8, 3) := by decide +kernel
theorem d3_28 : decode prog_9_method_14_code 28 = .ok (.return_, 1) := by decide +kernel
theorem ef_3_R00 (m : MethodId) (x0 : Addr) : entryFrame m #[(.ref x0), .null, .null] 3 = mkF m 0 #[.val (.ref x0), .val .null, .val .null] [] := by first | (simp [entryFrame, mkF, argsToLocals, Value.category]; done) | rfl
set_option maxRecDepth 65536 in
set_option maxHeartbeats 40000000 in
theorem rm3_00 (l : Launch) (Z : State) (a0 : Array Value) (hw : ∀ d ∈ tables_1, d.before a0 Z = true) (a1 : Addr) (h0 : Heap) (n0 : Nat) (Z0 : n0 ≤ h0.size) (old_a1 : n0 ≤ a1) (E_a1 : Exa Z h0 a1 "com/example/kurslot/kurslot/book/PriceLevel") (F_better_a1 : Fld Z h0 a1 "com/example/kurslot/kurslot/book/PriceLevel" "better" "Lcom/example/kurslot/kurslot/book/PriceLevel;" .null) (F_worse_a1 : Fld Z h0 a1 "com/example/kurslot/kurslot/book/PriceLevel" "worse" "Lcom/example/kurslot/kurslot/book/PriceLevel;" .null) :
    OMet l Z (⟨"com/example/kurslot/kurslot/book/PriceLevel", "linkBetween", "(Lcom/example/kurslot/kurslot/book/PriceLevel;Lcom/example/kurslot/kurslot/book/PriceLevel;)V"⟩ : MethodName) prog_9_method_14_code 3 none [] ({ frames := 0, cells := 0, slots := 0, locals := 0 } : Room) #[(.ref a1), .null, .null] h0 (fun v h' L => v = none ∧ Fr n0 L ∧ Keep h0 h' [a1] ∧ Exa Z h' a1 "com/example/kurslot/kurslot/book/PriceLevel" ∧ Fld Z h' a1 "com/example/kurslot/kurslot/book/PriceLevel" "better" "Lcom/example/kurslot/kurslot/book/PriceLevel;" .null ∧ Fld Z h' a1 "com/example/kurslot/kurslot/book/PriceLevel" "worse" "Lcom/example/kurslot/kurslot/book/PriceLevel;" .null) := by
  refine own_body (plainFor_of_name pn_com_example_kurslot_kurslot_book_PriceLevel) (fun m => ef_3_R00 m a1) ?_
  intro p e s m below meth c T0 hx hby hml hown hnm hret hlk hZ X0 e0
  have hown : s.vm.findClass "com/example/kurslot/kurslot/book/PriceLevel" = some m.cls := hown
  have hml : c.maxLocals = 3 := hml
  have N0 := Fr.nil n0
  have K0 := Keep.refl h0 [a1]
  show OGo p e below s _ _ (T0.setTop (mkF m 0 #[.val (.ref a1), .val .null, .val .null] []))
  refine own_st (fun t k => XS.aloadN X0.here hx rfl (hb hby d3_0) rfl rfl k) ?_
  show OGo p e below s _ _ (T0.setTop (mkF m 1 #[.val (.ref a1), .val .null, .val .null] [(.ref a1)]))
  refine own_st (fun t k => XS.aloadN X0.here hx rfl (hb hby d3_1) rfl rfl k) ?_
  show OGo p e below s _ _ (T0.setTop (mkF m 2 #[.val (.ref a1), .val .null, .val .null] [.null, (.ref a1)]))
  obtain ⟨T8, hp8, X8, e8, Ww8, st8⟩ := putF X0 hx hZ hown (host := "") (Or.inl (hw _ (List.mem_of_getElem? (i := 31) rfl))) Via.refl e0 F_better_a1 E_a1 (Or.inl (hw _ (List.mem_of_getElem? (i := 32) rfl))) (hw _ (List.mem_of_getElem? (i := 4) rfl)) (ty := (.object "com/example/kurslot/kurslot/book/PriceLevel")) (by decide) rfl rfl (g := (mkF m 2 #[.val (.ref a1), .val .null, .val .null] [.null, (.ref a1)])) rfl rfl (hb hby d3_2)
  have Nf8 := Fr.snoc X8 N0 old_a1
  have Z0 := Nat.le_trans Z0 (Keep.of_wr Ww8).1
  have K0 := K0.wr Ww8 (Or.inl (List.mem_of_getElem? (i := 0) rfl))
  have E_a1 := E_a1.wr Ww8
  have F_better_a1 := F_better_a1.same Ww8
  have F_worse_a1 := F_worse_a1.other Ww8 (Or.inr (slot_ne (Or.inl (hw _ (List.mem_of_getElem? (i := 34) rfl))) (Or.inl (hw _ (List.mem_of_getElem? (i := 32) rfl))) (by decide) (t := (.object "com/example/kurslot/kurslot/book/PriceLevel")) (t' := (.object "com/example/kurslot/kurslot/book/PriceLevel")) (by decide) (by decide)))
  refine own_st st8 ?_
  show OGo p e below s _ _ (T8.setTop (mkF m 5 #[.val (.ref a1), .val .null, .val .null] []))
  refine own_st (fun t k => XS.aloadN X8.here hx rfl (hb hby d3_5) rfl rfl k) ?_
  show OGo p e below s _ _ (T8.setTop (mkF m 6 #[.val (.ref a1), .val .null, .val .null] [(.ref a1)]))
  refine own_st (fun t k => XS.aloadN X8.here hx rfl (hb hby d3_6) rfl rfl k) ?_
  show OGo p e below s _ _ (T8.setTop (mkF m 7 #[.val (.ref a1), .val .null, .val .null] [.null, (.ref a1)]))
  obtain ⟨T9, hp9, X9, e9, Ww9, st9⟩ := putF X8 hx hZ hown (host := "") (Or.inl (hw _ (List.mem_of_getElem? (i := 33) rfl))) Via.refl e8 F_worse_a1 E_a1 (Or.inl (hw _ (List.mem_of_getElem? (i := 34) rfl))) (hw _ (List.mem_of_getElem? (i := 4) rfl)) (ty := (.object "com/example/kurslot/kurslot/book/PriceLevel")) (by decide) rfl rfl (g := (mkF m 7 #[.val (.ref a1), .val .null, .val .null] [.null, (.ref a1)])) rfl rfl (hb hby d3_7)
  have Nf9 := Fr.snoc X9 Nf8 old_a1
  have Z0 := Nat.le_trans Z0 (Keep.of_wr Ww9).1
  have K0 := K0.wr Ww9 (Or.inl (List.mem_of_getElem? (i := 0) rfl))
  have E_a1 := E_a1.wr Ww9
  have F_better_a1 := F_better_a1.other Ww9 (Or.inr (slot_ne (Or.inl (hw _ (List.mem_of_getElem? (i := 32) rfl))) (Or.inl (hw _ (List.mem_of_getElem? (i := 34) rfl))) (by decide) (t := (.object "com/example/kurslot/kurslot/book/PriceLevel")) (t' := (.object "com/example/kurslot/kurslot/book/PriceLevel")) (by decide) (by decide)))
  have F_worse_a1 := F_worse_a1.same Ww9
  refine own_st st9 ?_
  show OGo p e below s _ _ (T9.setTop (mkF m 10 #[.val (.ref a1), .val .null, .val .null] []))
  refine own_st (fun t k => XS.aloadN X9.here hx rfl (hb hby d3_10) rfl rfl k) ?_
  show OGo p e below s _ _ (T9.setTop (mkF m 11 #[.val (.ref a1), .val .null, .val .null] [.null]))
  refine own_st (fun t k => XS.ifnullYes X9.here hx rfl (pc0 := 11) (pc' := 19) rfl (hb hby d3_11) rfl (by decide) (by decide) k) ?_
  show OGo p e below s _ _ (T9.setTop (mkF m 19 #[.val (.ref a1), .val .null, .val .null] []))
  refine own_st (fun t k => XS.aloadN X9.here hx rfl (hb hby d3_19) rfl rfl k) ?_
  show OGo p e below s _ _ (T9.setTop (mkF m 20 #[.val (.ref a1), .val .null, .val .null] [.null]))
  refine own_st (fun t k => XS.ifnullYes X9.here hx rfl (pc0 := 20) (pc' := 28) rfl (hb hby d3_20) rfl (by decide) (by decide) k) ?_
  show OGo p e below s _ _ (T9.setTop (mkF m 28 #[.val (.ref a1), .val .null, .val .null] []))
  exact own_retV X9 hx hlk hret (hb hby d3_28) (by decide) (by decide) (⟨rfl, Nf9, (by rw [e9]; exact K0), (by rw [e9]; exact E_a1), (by rw [e9]; exact F_better_a1), (by rw [e9]; exact F_worse_a1)⟩)
theorem d3_23 : decode prog_9_method_14_code 23 = .ok (.aload_n 2, 1) := by decide +kernel
theorem d3_24 : decode prog_9_method_14_code 24 = .ok (.aload_n 0, 1) := by decide +kernel
theorem d3_25 : decode prog_9_method_14_code 25 = .ok (.putfield 40, 3) := by decide +kernel
theorem ef_3_R0R (m : MethodId) (x0 : Addr) (x2 : Addr) : entryFrame m #[(.ref x0), .null, (.ref x2)] 3 = mkF m 0 #[.val (.ref x0), .val .null, .val (.ref x2)] [] := by first | (simp [entryFrame, mkF, argsToLocals, Value.category]; done) | rfl
set_option maxRecDepth 65536 in
set_option maxHeartbeats 40000000 in
theorem rm3_nd (l : Launch) (Z : State) (a0 : Array Value) (hw : ∀ d ∈ tables_1, d.before a0 Z = true) (a1 : Addr) (a3 : Addr) (h0 : Heap) (n0 : Nat) (Z0 : n0 ≤ h0.size) (old_a1 : n0 ≤ a1) (old_a3 : n0 ≤ a3) (ne_a1_a3 : a1 ≠ a3) (E_a1 : Exa Z h0 a1 "com/example/kurslot/kurslot/book/PriceLevel") (F_better_a1 : Fld Z h0 a1 "com/example/kurslot/kurslot/book/PriceLevel" "better" "Lcom/example/kurslot/kurslot/book/PriceLevel;" .null) (F_worse_a1 : Fld Z h0 a1 "com/example/kurslot/kurslot/book/PriceLevel" "worse" "Lcom/example/kurslot/kurslot/book/PriceLevel;" .null) (E_a3 : Exa Z h0 a3 "com/example/kurslot/kurslot/book/PriceLevel") (F_better_a3 : Fld Z h0 a3 "com/example/kurslot/kurslot/book/PriceLevel" "better" "Lcom/example/kurslot/kurslot/book/PriceLevel;" .null) (F_worse_a3 : Fld Z h0 a3 "com/example/kurslot/kurslot/book/PriceLevel" "worse" "Lcom/example/kurslot/kurslot/book/PriceLevel;" .null) :
    OMet l Z (⟨"com/example/kurslot/kurslot/book/PriceLevel", "linkBetween", "(Lcom/example/kurslot/kurslot/book/PriceLevel;Lcom/example/kurslot/kurslot/book/PriceLevel;)V"⟩ : MethodName) prog_9_method_14_code 3 none [] ({ frames := 0, cells := 0, slots := 0, locals := 0 } : Room) #[(.ref a1), .null, (.ref a3)] h0 (fun v h' L => v = none ∧ Fr n0 L ∧ Keep h0 h' [a1, a3] ∧ Exa Z h' a1 "com/example/kurslot/kurslot/book/PriceLevel" ∧ Fld Z h' a1 "com/example/kurslot/kurslot/book/PriceLevel" "better" "Lcom/example/kurslot/kurslot/book/PriceLevel;" .null ∧ Fld Z h' a1 "com/example/kurslot/kurslot/book/PriceLevel" "worse" "Lcom/example/kurslot/kurslot/book/PriceLevel;" (.ref a3) ∧ Exa Z h' a3 "com/example/kurslot/kurslot/book/PriceLevel" ∧ Fld Z h' a3 "com/example/kurslot/kurslot/book/PriceLevel" "better" "Lcom/example/kurslot/kurslot/book/PriceLevel;" (.ref a1) ∧ Fld Z h' a3 "com/example/kurslot/kurslot/book/PriceLevel" "worse" "Lcom/example/kurslot/kurslot/book/PriceLevel;" .null) := by
  refine own_body (plainFor_of_name pn_com_example_kurslot_kurslot_book_PriceLevel) (fun m => ef_3_R0R m a1 a3) ?_
  intro p e s m below meth c T0 hx hby hml hown hnm hret hlk hZ X0 e0
  have hown : s.vm.findClass "com/example/kurslot/kurslot/book/PriceLevel" = some m.cls := hown
  have hml : c.maxLocals = 3 := hml
  have N0 := Fr.nil n0
  have K0 := Keep.refl h0 [a1, a3]
  show OGo p e below s _ _ (T0.setTop (mkF m 0 #[.val (.ref a1), .val .null, .val (.ref a3)] []))
  refine own_st (fun t k => XS.aloadN X0.here hx rfl (hb hby d3_0) rfl rfl k) ?_
  show OGo p e below s _ _ (T0.setTop (mkF m 1 #[.val (.ref a1), .val .null, .val (.ref a3)] [(.ref a1)]))
  refine own_st (fun t k => XS.aloadN X0.here hx rfl (hb hby d3_1) rfl rfl k) ?_
  show OGo p e below s _ _ (T0.setTop (mkF m 2 #[.val (.ref a1), .val .null, .val (.ref a3)] [.null, (.ref a1)]))
  obtain ⟨T10, hp10, X10, e10, Ww10, st10⟩ := putF X0 hx hZ hown (host := "") (Or.inl (hw _ (List.mem_of_getElem? (i := 31) rfl))) Via.refl e0 F_better_a1 E_a1 (Or.inl (hw _ (List.mem_of_getElem? (i := 32) rfl))) (hw _ (List.mem_of_getElem? (i := 4) rfl)) (ty := (.object "com/example/kurslot/kurslot/book/PriceLevel")) (by decide) rfl rfl (g := (mkF m 2 #[.val (.ref a1), .val .null, .val (.ref a3)] [.null, (.ref a1)])) rfl rfl (hb hby d3_2)
  have Nf10 := Fr.snoc X10 N0 old_a1
  have Z0 := Nat.le_trans Z0 (Keep.of_wr Ww10).1
  have K0 := K0.wr Ww10 (Or.inl (List.mem_of_getElem? (i := 0) rfl))
  have E_a1 := E_a1.wr Ww10
  have F_better_a1 := F_better_a1.same Ww10
  have F_worse_a1 := F_worse_a1.other Ww10 (Or.inr (slot_ne (Or.inl (hw _ (List.mem_of_getElem? (i := 34) rfl))) (Or.inl (hw _ (List.mem_of_getElem? (i := 32) rfl))) (by decide) (t := (.object "com/example/kurslot/kurslot/book/PriceLevel")) (t' := (.object "com/example/kurslot/kurslot/book/PriceLevel")) (by decide) (by decide)))
  have E_a3 := E_a3.wr Ww10
  have F_better_a3 := F_better_a3.other Ww10 (Or.inl (Ne.symm ne_a1_a3))
  have F_worse_a3 := F_worse_a3.other Ww10 (Or.inl (Ne.symm ne_a1_a3))
  refine own_st st10 ?_
  show OGo p e below s _ _ (T10.setTop (mkF m 5 #[.val (.ref a1), .val .null, .val (.ref a3)] []))
  refine own_st (fun t k => XS.aloadN X10.here hx rfl (hb hby d3_5) rfl rfl k) ?_
  show OGo p e below s _ _ (T10.setTop (mkF m 6 #[.val (.ref a1), .val .null, .val (.ref a3)] [(.ref a1)]))
  refine own_st (fun t k => XS.aloadN X10.here hx rfl (hb hby d3_6) rfl rfl k) ?_
  show OGo p e below s _ _ (T10.setTop (mkF m 7 #[.val (.ref a1), .val .null, .val (.ref a3)] [(.ref a3), (.ref a1)]))
  obtain ⟨T11, hp11, X11, e11, Ww11, st11⟩ := putF X10 hx hZ hown (host := "") (Or.inl (hw _ (List.mem_of_getElem? (i := 33) rfl))) Via.refl e10 F_worse_a1 E_a1 (Or.inl (hw _ (List.mem_of_getElem? (i := 34) rfl))) (hw _ (List.mem_of_getElem? (i := 4) rfl)) (ty := (.object "com/example/kurslot/kurslot/book/PriceLevel")) (by decide) rfl rfl (g := (mkF m 7 #[.val (.ref a1), .val .null, .val (.ref a3)] [(.ref a3), (.ref a1)])) rfl rfl (hb hby d3_7)
  have Nf11 := Fr.snoc X11 Nf10 old_a1
  have Z0 := Nat.le_trans Z0 (Keep.of_wr Ww11).1
  have K0 := K0.wr Ww11 (Or.inl (List.mem_of_getElem? (i := 0) rfl))
  have E_a1 := E_a1.wr Ww11
  have F_better_a1 := F_better_a1.other Ww11 (Or.inr (slot_ne (Or.inl (hw _ (List.mem_of_getElem? (i := 32) rfl))) (Or.inl (hw _ (List.mem_of_getElem? (i := 34) rfl))) (by decide) (t := (.object "com/example/kurslot/kurslot/book/PriceLevel")) (t' := (.object "com/example/kurslot/kurslot/book/PriceLevel")) (by decide) (by decide)))
  have F_worse_a1 := F_worse_a1.same Ww11
  have E_a3 := E_a3.wr Ww11
  have F_better_a3 := F_better_a3.other Ww11 (Or.inl (Ne.symm ne_a1_a3))
  have F_worse_a3 := F_worse_a3.other Ww11 (Or.inl (Ne.symm ne_a1_a3))
  refine own_st st11 ?_
  show OGo p e below s _ _ (T11.setTop (mkF m 10 #[.val (.ref a1), .val .null, .val (.ref a3)] []))
  refine own_st (fun t k => XS.aloadN X11.here hx rfl (hb hby d3_10) rfl rfl k) ?_
  show OGo p e below s _ _ (T11.setTop (mkF m 11 #[.val (.ref a1), .val .null, .val (.ref a3)] [.null]))
  refine own_st (fun t k => XS.ifnullYes X11.here hx rfl (pc0 := 11) (pc' := 19) rfl (hb hby d3_11) rfl (by decide) (by decide) k) ?_
  show OGo p e below s _ _ (T11.setTop (mkF m 19 #[.val (.ref a1), .val .null, .val (.ref a3)] []))
  refine own_st (fun t k => XS.aloadN X11.here hx rfl (hb hby d3_19) rfl rfl k) ?_
  show OGo p e below s _ _ (T11.setTop (mkF m 20 #[.val (.ref a1), .val .null, .val (.ref a3)] [(.ref a3)]))
  refine own_st (fun t k => XS.ifnullNo X11.here hx rfl (hb hby d3_20) rfl k) ?_
  show OGo p e below s _ _ (T11.setTop (mkF m 23 #[.val (.ref a1), .val .null, .val (.ref a3)] []))
  refine own_st (fun t k => XS.aloadN X11.here hx rfl (hb hby d3_23) rfl rfl k) ?_
  show OGo p e below s _ _ (T11.setTop (mkF m 24 #[.val (.ref a1), .val .null, .val (.ref a3)] [(.ref a3)]))
  refine own_st (fun t k => XS.aloadN X11.here hx rfl (hb hby d3_24) rfl rfl k) ?_
  show OGo p e below s _ _ (T11.setTop (mkF m 25 #[.val (.ref a1), .val .null, .val (.ref a3)] [(.ref a1), (.ref a3)]))
  obtain ⟨T12, hp12, X12, e12, Ww12, st12⟩ := putF X11 hx hZ hown (host := "") (Or.inl (hw _ (List.mem_of_getElem? (i := 31) rfl))) Via.refl e11 F_better_a3 E_a3 (Or.inl (hw _ (List.mem_of_getElem? (i := 32) rfl))) (hw _ (List.mem_of_getElem? (i := 4) rfl)) (ty := (.object "com/example/kurslot/kurslot/book/PriceLevel")) (by decide) rfl rfl (g := (mkF m 25 #[.val (.ref a1), .val .null, .val (.ref a3)] [(.ref a1), (.ref a3)])) rfl rfl (hb hby d3_25)
  have Nf12 := Fr.snoc X12 Nf11 old_a3
  have Z0 := Nat.le_trans Z0 (Keep.of_wr Ww12).1
  have K0 := K0.wr Ww12 (Or.inl (List.mem_of_getElem? (i := 1) rfl))
  have E_a1 := E_a1.wr Ww12
  have F_better_a1 := F_better_a1.other Ww12 (Or.inl ne_a1_a3)
  have F_worse_a1 := F_worse_a1.other Ww12 (Or.inl ne_a1_a3)
  have E_a3 := E_a3.wr Ww12
  have F_better_a3 := F_better_a3.same Ww12
  have F_worse_a3 := F_worse_a3.other Ww12 (Or.inr (slot_ne (Or.inl (hw _ (List.mem_of_getElem? (i := 34) rfl))) (Or.inl (hw _ (List.mem_of_getElem? (i := 32) rfl))) (by decide) (t := (.object "com/example/kurslot/kurslot/book/PriceLevel")) (t' := (.object "com/example/kurslot/kurslot/book/PriceLevel")) (by decide) (by decide)))
  refine own_st st12 ?_
  show OGo p e below s _ _ (T12.setTop (mkF m 28 #[.val (.ref a1), .val .null, .val (.ref a3)] []))
  exact own_retV X12 hx hlk hret (hb hby d3_28) (by decide) (by decide) (⟨rfl, Nf12, (by rw [e12]; exact K0), (by rw [e12]; exact E_a1), (by rw [e12]; exact F_better_a1), (by rw [e12]; exact F_worse_a1), (by rw [e12]; exact E_a3), (by rw [e12]; exact F_better_a3), (by rw [e12]; exact F_worse_a3)⟩)

set_option maxRecDepth 65536 in
set_option maxHeartbeats 40000000 in
theorem rm3_01 (l : Launch) (Z : State) (a0 : Array Value) (hw : ∀ d ∈ tables_1, d.before a0 Z = true) (a1 : Addr) (a3 : Addr) (a4 : Addr) (h0 : Heap) (n0 : Nat) (Z0 : n0 ≤ h0.size) (old_a1 : n0 ≤ a1) (old_a3 : n0 ≤ a3) (ne_a1_a3 : a1 ≠ a3) (E_a1 : Exa Z h0 a1 "com/example/kurslot/kurslot/book/PriceLevel") (F_better_a1 : Fld Z h0 a1 "com/example/kurslot/kurslot/book/PriceLevel" "better" "Lcom/example/kurslot/kurslot/book/PriceLevel;" .null) (F_worse_a1 : Fld Z h0 a1 "com/example/kurslot/kurslot/book/PriceLevel" "worse" "Lcom/example/kurslot/kurslot/book/PriceLevel;" .null) (E_a3 : Exa Z h0 a3 "com/example/kurslot/kurslot/book/PriceLevel") (F_better_a3 : Fld Z h0 a3 "com/example/kurslot/kurslot/book/PriceLevel" "better" "Lcom/example/kurslot/kurslot/book/PriceLevel;" .null) (F_worse_a3 : Fld Z h0 a3 "com/example/kurslot/kurslot/book/PriceLevel" "worse" "Lcom/example/kurslot/kurslot/book/PriceLevel;" (.ref a4)) :
    OMet l Z (⟨"com/example/kurslot/kurslot/book/PriceLevel", "linkBetween", "(Lcom/example/kurslot/kurslot/book/PriceLevel;Lcom/example/kurslot/kurslot/book/PriceLevel;)V"⟩ : MethodName) prog_9_method_14_code 3 none [] ({ frames := 0, cells := 0, slots := 0, locals := 0 } : Room) #[(.ref a1), .null, (.ref a3)] h0 (fun v h' L => v = none ∧ Fr n0 L ∧ Keep h0 h' [a1, a3] ∧ Exa Z h' a1 "com/example/kurslot/kurslot/book/PriceLevel" ∧ Fld Z h' a1 "com/example/kurslot/kurslot/book/PriceLevel" "better" "Lcom/example/kurslot/kurslot/book/PriceLevel;" .null ∧ Fld Z h' a1 "com/example/kurslot/kurslot/book/PriceLevel" "worse" "Lcom/example/kurslot/kurslot/book/PriceLevel;" (.ref a3) ∧ Exa Z h' a3 "com/example/kurslot/kurslot/book/PriceLevel" ∧ Fld Z h' a3 "com/example/kurslot/kurslot/book/PriceLevel" "better" "Lcom/example/kurslot/kurslot/book/PriceLevel;" (.ref a1) ∧ Fld Z h' a3 "com/example/kurslot/kurslot/book/PriceLevel" "worse" "Lcom/example/kurslot/kurslot/book/PriceLevel;" (.ref a4)) := by
  refine own_body (plainFor_of_name pn_com_example_kurslot_kurslot_book_PriceLevel) (fun m => ef_3_R0R m a1 a3) ?_
  intro p e s m below meth c T0 hx hby hml hown hnm hret hlk hZ X0 e0
  have hown : s.vm.findClass "com/example/kurslot/kurslot/book/PriceLevel" = some m.cls := hown
  have hml : c.maxLocals = 3 := hml
  have N0 := Fr.nil n0
  have K0 := Keep.refl h0 [a1, a3]
  show OGo p e below s _ _ (T0.setTop (mkF m 0 #[.val (.ref a1), .val .null, .val (.ref a3)] []))
  refine own_st (fun t k => XS.aloadN X0.here hx rfl (hb hby d3_0) rfl rfl k) ?_
  show OGo p e below s _ _ (T0.setTop (mkF m 1 #[.val (.ref a1), .val .null, .val (.ref a3)] [(.ref a1)]))
  refine own_st (fun t k => XS.aloadN X0.here hx rfl (hb hby d3_1) rfl rfl k) ?_
  show OGo p e below s _ _ (T0.setTop (mkF m 2 #[.val (.ref a1), .val .null, .val (.ref a3)] [.null, (.ref a1)]))
  obtain ⟨T13, hp13, X13, e13, Ww13, st13⟩ := putF X0 hx hZ hown (host := "") (Or.inl (hw _ (List.mem_of_getElem? (i := 31) rfl))) Via.refl e0 F_better_a1 E_a1 (Or.inl (hw _ (List.mem_of_getElem? (i := 32) rfl))) (hw _ (List.mem_of_getElem? (i := 4) rfl)) (ty := (.object "com/example/kurslot/kurslot/book/PriceLevel")) (by decide) rfl rfl (g := (mkF m 2 #[.val (.ref a1), .val .null, .val (.ref a3)] [.null, (.ref a1)])) rfl rfl (hb hby d3_2)
  have Nf13 := Fr.snoc X13 N0 old_a1
  have Z0 := Nat.le_trans Z0 (Keep.of_wr Ww13).1
  have K0 := K0.wr Ww13 (Or.inl (List.mem_of_getElem? (i := 0) rfl))
  have E_a1 := E_a1.wr Ww13
  have F_better_a1 := F_better_a1.same Ww13
  have F_worse_a1 := F_worse_a1.other Ww13 (Or.inr (slot_ne (Or.inl (hw _ (List.mem_of_getElem? (i := 34) rfl))) (Or.inl (hw _ (List.mem_of_getElem? (i := 32) rfl))) (by decide) (t := (.object "com/example/kurslot/kurslot/book/PriceLevel")) (t' := (.object "com/example/kurslot/kurslot/book/PriceLevel")) (by decide) (by decide)))
  have E_a3 := E_a3.wr Ww13
  have F_better_a3 := F_better_a3.other Ww13 (Or.inl (Ne.symm ne_a1_a3))
  have F_worse_a3 := F_worse_a3.other Ww13 (Or.inl (Ne.symm ne_a1_a3))
  refine own_st st13 ?_
  show OGo p e below s _ _ (T13.setTop (mkF m 5 #[.val (.ref a1), .val .null, .val (.ref a3)] []))
  refine own_st (fun t k => XS.aloadN X13.here hx rfl (hb hby d3_5) rfl rfl k) ?_
  show OGo p e below s _ _ (T13.setTop (mkF m 6 #[.val (.ref a1), .val .null, .val (.ref a3)] [(.ref a1)]))
  refine own_st (fun t k => XS.aloadN X13.here hx rfl (hb hby d3_6) rfl rfl k) ?_
  show OGo p e below s _ _ (T13.setTop (mkF m 7 #[.val (.ref a1), .val .null, .val (.ref a3)] [(.ref a3), (.ref a1)]))
  obtain ⟨T14, hp14, X14, e14, Ww14, st14⟩ := putF X13 hx hZ hown (host := "") (Or.inl (hw _ (List.mem_of_getElem? (i := 33) rfl))) Via.refl e13 F_worse_a1 E_a1 (Or.inl (hw _ (List.mem_of_getElem? (i := 34) rfl))) (hw _ (List.mem_of_getElem? (i := 4) rfl)) (ty := (.object "com/example/kurslot/kurslot/book/PriceLevel")) (by decide) rfl rfl (g := (mkF m 7 #[.val (.ref a1), .val .null, .val (.ref a3)] [(.ref a3), (.ref a1)])) rfl rfl (hb hby d3_7)
  have Nf14 := Fr.snoc X14 Nf13 old_a1
  have Z0 := Nat.le_trans Z0 (Keep.of_wr Ww14).1
  have K0 := K0.wr Ww14 (Or.inl (List.mem_of_getElem? (i := 0) rfl))
  have E_a1 := E_a1.wr Ww14
  have F_better_a1 := F_better_a1.other Ww14 (Or.inr (slot_ne (Or.inl (hw _ (List.mem_of_getElem? (i := 32) rfl))) (Or.inl (hw _ (List.mem_of_getElem? (i := 34) rfl))) (by decide) (t := (.object "com/example/kurslot/kurslot/book/PriceLevel")) (t' := (.object "com/example/kurslot/kurslot/book/PriceLevel")) (by decide) (by decide)))
  have F_worse_a1 := F_worse_a1.same Ww14
  have E_a3 := E_a3.wr Ww14
  have F_better_a3 := F_better_a3.other Ww14 (Or.inl (Ne.symm ne_a1_a3))
  have F_worse_a3 := F_worse_a3.other Ww14 (Or.inl (Ne.symm ne_a1_a3))
  refine own_st st14 ?_
  show OGo p e below s _ _ (T14.setTop (mkF m 10 #[.val (.ref a1), .val .null, .val (.ref a3)] []))
  refine own_st (fun t k => XS.aloadN X14.here hx rfl (hb hby d3_10) rfl rfl k) ?_
  show OGo p e below s _ _ (T14.setTop (mkF m 11 #[.val (.ref a1), .val .null, .val (.ref a3)] [.null]))
  refine own_st (fun t k => XS.ifnullYes X14.here hx rfl (pc0 := 11) (pc' := 19) rfl (hb hby d3_11) rfl (by decide) (by decide) k) ?_
  show OGo p e below s _ _ (T14.setTop (mkF m 19 #[.val (.ref a1), .val .null, .val (.ref a3)] []))
  refine own_st (fun t k => XS.aloadN X14.here hx rfl (hb hby d3_19) rfl rfl k) ?_
  show OGo p e below s _ _ (T14.setTop (mkF m 20 #[.val (.ref a1), .val .null, .val (.ref a3)] [(.ref a3)]))
  refine own_st (fun t k => XS.ifnullNo X14.here hx rfl (hb hby d3_20) rfl k) ?_
  show OGo p e below s _ _ (T14.setTop (mkF m 23 #[.val (.ref a1), .val .null, .val (.ref a3)] []))
  refine own_st (fun t k => XS.aloadN X14.here hx rfl (hb hby d3_23) rfl rfl k) ?_
  show OGo p e below s _ _ (T14.setTop (mkF m 24 #[.val (.ref a1), .val .null, .val (.ref a3)] [(.ref a3)]))
  refine own_st (fun t k => XS.aloadN X14.here hx rfl (hb hby d3_24) rfl rfl k) ?_
  show OGo p e below s _ _ (T14.setTop (mkF m 25 #[.val (.ref a1), .val .null, .val (.ref a3)] [(.ref a1), (.ref a3)]))
  obtain ⟨T15, hp15, X15, e15, Ww15, st15⟩ := putF X14 hx hZ hown (host := "") (Or.inl (hw _ (List.mem_of_getElem? (i := 31) rfl))) Via.refl e14 F_better_a3 E_a3 (Or.inl (hw _ (List.mem_of_getElem? (i := 32) rfl))) (hw _ (List.mem_of_getElem? (i := 4) rfl)) (ty := (.object "com/example/kurslot/kurslot/book/PriceLevel")) (by decide) rfl rfl (g := (mkF m 25 #[.val (.ref a1), .val .null, .val (.ref a3)] [(.ref a1), (.ref a3)])) rfl rfl (hb hby d3_25)
  have Nf15 := Fr.snoc X15 Nf14 old_a3
  have Z0 := Nat.le_trans Z0 (Keep.of_wr Ww15).1
  have K0 := K0.wr Ww15 (Or.inl (List.mem_of_getElem? (i := 1) rfl))
  have E_a1 := E_a1.wr Ww15
  have F_better_a1 := F_better_a1.other Ww15 (Or.inl ne_a1_a3)
  have F_worse_a1 := F_worse_a1.other Ww15 (Or.inl ne_a1_a3)
  have E_a3 := E_a3.wr Ww15
  have F_better_a3 := F_better_a3.same Ww15
  have F_worse_a3 := F_worse_a3.other Ww15 (Or.inr (slot_ne (Or.inl (hw _ (List.mem_of_getElem? (i := 34) rfl))) (Or.inl (hw _ (List.mem_of_getElem? (i := 32) rfl))) (by decide) (t := (.object "com/example/kurslot/kurslot/book/PriceLevel")) (t' := (.object "com/example/kurslot/kurslot/book/PriceLevel")) (by decide) (by decide)))
  refine own_st st15 ?_
  show OGo p e below s _ _ (T15.setTop (mkF m 28 #[.val (.ref a1), .val .null, .val (.ref a3)] []))
  exact own_retV X15 hx hlk hret (hb hby d3_28) (by decide) (by decide) (⟨rfl, Nf15, (by rw [e15]; exact K0), (by rw [e15]; exact E_a1), (by rw [e15]; exact F_better_a1), (by rw [e15]; exact F_worse_a1), (by rw [e15]; exact E_a3), (by rw [e15]; exact F_better_a3), (by rw [e15]; exact F_worse_a3)⟩)
theorem d3_14 : decode prog_9_method_14_code 14 = .ok (.aload_n 1, 1) := by decide +kernel
theorem d3_15 : decode prog_9_method_14_code 15 = .ok (.aload_n 0, 1) := by decide +kernel
theorem d3_16 : decode prog_9_method_14_code 16 = .ok (.putfield 36, 3) := by decide +kernel
theorem ef_3_RR0 (m : MethodId) (x0 : Addr) (x1 : Addr) : entryFrame m #[(.ref x0), (.ref x1), .null] 3 = mkF m 0 #[.val (.ref x0), .val (.ref x1), .val .null] [] := by first | (simp [entryFrame, mkF, argsToLocals, Value.category]; done) | rfl
set_option maxRecDepth 65536 in
set_option maxHeartbeats 40000000 in
theorem rm3_10 (l : Launch) (Z : State) (a0 : Array Value) (hw : ∀ d ∈ tables_1, d.before a0 Z = true) (a1 : Addr) (a2 : Addr) (h0 : Heap) (n0 : Nat) (Z0 : n0 ≤ h0.size) (old_a1 : n0 ≤ a1) (old_a2 : n0 ≤ a2) (ne_a1_a2 : a1 ≠ a2) (E_a1 : Exa Z h0 a1 "com/example/kurslot/kurslot/book/PriceLevel") (F_better_a1 : Fld Z h0 a1 "com/example/kurslot/kurslot/book/PriceLevel" "better" "Lcom/example/kurslot/kurslot/book/PriceLevel;" .null) (F_worse_a1 : Fld Z h0 a1 "com/example/kurslot/kurslot/book/PriceLevel" "worse" "Lcom/example/kurslot/kurslot/book/PriceLevel;" .null) (E_a2 : Exa Z h0 a2 "com/example/kurslot/kurslot/book/PriceLevel") (F_better_a2 : Fld Z h0 a2 "com/example/kurslot/kurslot/book/PriceLevel" "better" "Lcom/example/kurslot/kurslot/book/PriceLevel;" .null) (F_worse_a2 : Fld Z h0 a2 "com/example/kurslot/kurslot/book/PriceLevel" "worse" "Lcom/example/kurslot/kurslot/book/PriceLevel;" .null) :
    OMet l Z (⟨"com/example/kurslot/kurslot/book/PriceLevel", "linkBetween", "(Lcom/example/kurslot/kurslot/book/PriceLevel;Lcom/example/kurslot/kurslot/book/PriceLevel;)V"⟩ : MethodName) prog_9_method_14_code 3 none [] ({ frames := 0, cells := 0, slots := 0, locals := 0 } : Room) #[(.ref a1), (.ref a2), .null] h0 (fun v h' L => v = none ∧ Fr n0 L ∧ Keep h0 h' [a1, a2] ∧ Exa Z h' a1 "com/example/kurslot/kurslot/book/PriceLevel" ∧ Fld Z h' a1 "com/example/kurslot/kurslot/book/PriceLevel" "better" "Lcom/example/kurslot/kurslot/book/PriceLevel;" (.ref a2) ∧ Fld Z h' a1 "com/example/kurslot/kurslot/book/PriceLevel" "worse" "Lcom/example/kurslot/kurslot/book/PriceLevel;" .null ∧ Exa Z h' a2 "com/example/kurslot/kurslot/book/PriceLevel" ∧ Fld Z h' a2 "com/example/kurslot/kurslot/book/PriceLevel" "better" "Lcom/example/kurslot/kurslot/book/PriceLevel;" .null ∧ Fld Z h' a2 "com/example/kurslot/kurslot/book/PriceLevel" "worse" "Lcom/example/kurslot/kurslot/book/PriceLevel;" (.ref a1)) := by
  refine own_body (plainFor_of_name pn_com_example_kurslot_kurslot_book_PriceLevel) (fun m => ef_3_RR0 m a1 a2) ?_
  intro p e s m below meth c T0 hx hby hml hown hnm hret hlk hZ X0 e0
  have hown : s.vm.findClass "com/example/kurslot/kurslot/book/PriceLevel" = some m.cls := hown
  have hml : c.maxLocals = 3 := hml
  have N0 := Fr.nil n0
  have K0 := Keep.refl h0 [a1, a2]
  show OGo p e below s _ _ (T0.setTop (mkF m 0 #[.val (.ref a1), .val (.ref a2), .val .null] []))
  refine own_st (fun t k => XS.aloadN X0.here hx rfl (hb hby d3_0) rfl rfl k) ?_
  show OGo p e below s _ _ (T0.setTop (mkF m 1 #[.val (.ref a1), .val (.ref a2), .val .null] [(.ref a1)]))
  refine own_st (fun t k => XS.aloadN X0.here hx rfl (hb hby d3_1) rfl rfl k) ?_
  show OGo p e below s _ _ (T0.setTop (mkF m 2 #[.val (.ref a1), .val (.ref a2), .val .null] [(.ref a2), (.ref a1)]))
  obtain ⟨T16, hp16, X16, e16, Ww16, st16⟩ := putF X0 hx hZ hown (host := "") (Or.inl (hw _ (List.mem_of_getElem? (i := 31) rfl))) Via.refl e0 F_better_a1 E_a1 (Or.inl (hw _ (List.mem_of_getElem? (i := 32) rfl))) (hw _ (List.mem_of_getElem? (i := 4) rfl)) (ty := (.object "com/example/kurslot/kurslot/book/PriceLevel")) (by decide) rfl rfl (g := (mkF m 2 #[.val (.ref a1), .val (.ref a2), .val .null] [(.ref a2), (.ref a1)])) rfl rfl (hb hby d3_2)
  have Nf16 := Fr.snoc X16 N0 old_a1
  have Z0 := Nat.le_trans Z0 (Keep.of_wr Ww16).1
  have K0 := K0.wr Ww16 (Or.inl (List.mem_of_getElem? (i := 0) rfl))
  have E_a1 := E_a1.wr Ww16
  have F_better_a1 := F_better_a1.same Ww16
  have F_worse_a1 := F_worse_a1.other Ww16 (Or.inr (slot_ne (Or.inl (hw _ (List.mem_of_getElem? (i := 34) rfl))) (Or.inl (hw _ (List.mem_of_getElem? (i := 32) rfl))) (by decide) (t := (.object "com/example/kurslot/kurslot/book/PriceLevel")) (t' := (.object "com/example/kurslot/kurslot/book/PriceLevel")) (by decide) (by decide)))
  have E_a2 := E_a2.wr Ww16
  have F_better_a2 := F_better_a2.other Ww16 (Or.inl (Ne.symm ne_a1_a2))
  have F_worse_a2 := F_worse_a2.other Ww16 (Or.inl (Ne.symm ne_a1_a2))
  refine own_st st16 ?_
  show OGo p e below s _ _ (T16.setTop (mkF m 5 #[.val (.ref a1), .val (.ref a2), .val .null] []))
  refine own_st (fun t k => XS.aloadN X16.here hx rfl (hb hby d3_5) rfl rfl k) ?_
  show OGo p e below s _ _ (T16.setTop (mkF m 6 #[.val (.ref a1), .val (.ref a2), .val .null] [(.ref a1)]))
  refine own_st (fun t k => XS.aloadN X16.here hx rfl (hb hby d3_6) rfl rfl k) ?_
  show OGo p e below s _ _ (T16.setTop (mkF m 7 #[.val (.ref a1), .val (.ref a2), .val .null] [.null, (.ref a1)]))
  obtain ⟨T17, hp17, X17, e17, Ww17, st17⟩ := putF X16 hx hZ hown (host := "") (Or.inl (hw _ (List.mem_of_getElem? (i := 33) rfl))) Via.refl e16 F_worse_a1 E_a1 (Or.inl (hw _ (List.mem_of_getElem? (i := 34) rfl))) (hw _ (List.mem_of_getElem? (i := 4) rfl)) (ty := (.object "com/example/kurslot/kurslot/book/PriceLevel")) (by decide) rfl rfl (g := (mkF m 7 #[.val (.ref a1), .val (.ref a2), .val .null] [.null, (.ref a1)])) rfl rfl (hb hby d3_7)
  have Nf17 := Fr.snoc X17 Nf16 old_a1
  have Z0 := Nat.le_trans Z0 (Keep.of_wr Ww17).1
  have K0 := K0.wr Ww17 (Or.inl (List.mem_of_getElem? (i := 0) rfl))
  have E_a1 := E_a1.wr Ww17
  have F_better_a1 := F_better_a1.other Ww17 (Or.inr (slot_ne (Or.inl (hw _ (List.mem_of_getElem? (i := 32) rfl))) (Or.inl (hw _ (List.mem_of_getElem? (i := 34) rfl))) (by decide) (t := (.object "com/example/kurslot/kurslot/book/PriceLevel")) (t' := (.object "com/example/kurslot/kurslot/book/PriceLevel")) (by decide) (by decide)))
  have F_worse_a1 := F_worse_a1.same Ww17
  have E_a2 := E_a2.wr Ww17
  have F_better_a2 := F_better_a2.other Ww17 (Or.inl (Ne.symm ne_a1_a2))
  have F_worse_a2 := F_worse_a2.other Ww17 (Or.inl (Ne.symm ne_a1_a2))
  refine own_st st17 ?_
  show OGo p e below s _ _ (T17.setTop (mkF m 10 #[.val (.ref a1), .val (.ref a2), .val .null] []))
  refine own_st (fun t k => XS.aloadN X17.here hx rfl (hb hby d3_10) rfl rfl k) ?_
  show OGo p e below s _ _ (T17.setTop (mkF m 11 #[.val (.ref a1), .val (.ref a2), .val .null] [(.ref a2)]))
  refine own_st (fun t k => XS.ifnullNo X17.here hx rfl (hb hby d3_11) rfl k) ?_
  show OGo p e below s _ _ (T17.setTop (mkF m 14 #[.val (.ref a1), .val (.ref a2), .val .null] []))
  refine own_st (fun t k => XS.aloadN X17.here hx rfl (hb hby d3_14) rfl rfl k) ?_
  show OGo p e below s _ _ (T17.setTop (mkF m 15 #[.val (.ref a1), .val (.ref a2), .val .null] [(.ref a2)]))
  refine own_st (fun t k => XS.aloadN X17.here hx rfl (hb hby d3_15) rfl rfl k) ?_
  show OGo p e below s _ _ (T17.setTop (mkF m 16 #[.val (.ref a1), .val (.ref a2), .val .null] [(.ref a1), (.ref a2)]))
  obtain ⟨T18, hp18, X18, e18, Ww18, st18⟩ := putF X17 hx hZ hown (host := "") (Or.inl (hw _ (List.mem_of_getElem? (i := 33) rfl))) Via.refl e17 F_worse_a2 E_a2 (Or.inl (hw _ (List.mem_of_getElem? (i := 34) rfl))) (hw _ (List.mem_of_getElem? (i := 4) rfl)) (ty := (.object "com/example/kurslot/kurslot/book/PriceLevel")) (by decide) rfl rfl (g := (mkF m 16 #[.val (.ref a1), .val (.ref a2), .val .null] [(.ref a1), (.ref a2)])) rfl rfl (hb hby d3_16)
  have Nf18 := Fr.snoc X18 Nf17 old_a2
  have Z0 := Nat.le_trans Z0 (Keep.of_wr Ww18).1
  have K0 := K0.wr Ww18 (Or.inl (List.mem_of_getElem? (i := 1) rfl))
  have E_a1 := E_a1.wr Ww18
  have F_better_a1 := F_better_a1.other Ww18 (Or.inl ne_a1_a2)
  have F_worse_a1 := F_worse_a1.other Ww18 (Or.inl ne_a1_a2)
  have E_a2 := E_a2.wr Ww18
  have F_better_a2 := F_better_a2.other Ww18 (Or.inr (slot_ne (Or.inl (hw _ (List.mem_of_getElem? (i := 32) rfl))) (Or.inl (hw _ (List.mem_of_getElem? (i := 34) rfl))) (by decide) (t := (.object "com/example/kurslot/kurslot/book/PriceLevel")) (t' := (.object "com/example/kurslot/kurslot/book/PriceLevel")) (by decide) (by decide)))
  have F_worse_a2 := F_worse_a2.same Ww18
  refine own_st st18 ?_
  show OGo p e below s _ _ (T18.setTop (mkF m 19 #[.val (.ref a1), .val (.ref a2), .val .null] []))
  refine own_st (fun t k => XS.aloadN X18.here hx rfl (hb hby d3_19) rfl rfl k) ?_
  show OGo p e below s _ _ (T18.setTop (mkF m 20 #[.val (.ref a1), .val (.ref a2), .val .null] [.null]))
  refine own_st (fun t k => XS.ifnullYes X18.here hx rfl (pc0 := 20) (pc' := 28) rfl (hb hby d3_20) rfl (by decide) (by decide) k) ?_
  show OGo p e below s _ _ (T18.setTop (mkF m 28 #[.val (.ref a1), .val (.ref a2), .val .null] []))
  exact own_retV X18 hx hlk hret (hb hby d3_28) (by decide) (by decide) (⟨rfl, Nf18, (by rw [e18]; exact K0), (by rw [e18]; exact E_a1), (by rw [e18]; exact F_better_a1), (by rw [e18]; exact F_worse_a1), (by rw [e18]; exact E_a2), (by rw [e18]; exact F_better_a2), (by rw [e18]; exact F_worse_a2)⟩)
theorem ef_3_RRR (m : MethodId) (x0 : Addr) (x1 : Addr) (x2 : Addr) : entryFrame m #[(.ref x0), (.ref x1), (.ref x2)] 3 = mkF m 0 #[.val (.ref x0), .val (.ref x1), .val (.ref x2)] [] := by first | (simp [entryFrame, mkF, argsToLocals, Value.category]; done) | rfl
set_option maxRecDepth 65536 in
set_option maxHeartbeats 40000000 in
theorem rm3_11 (l : Launch) (Z : State) (a0 : Array Value) (hw : ∀ d ∈ tables_1, d.before a0 Z = true) (a1 : Addr) (a2 : Addr) (a3 : Addr) (a4 : Addr) (h0 : Heap) (n0 : Nat) (Z0 : n0 ≤ h0.size) (old_a1 : n0 ≤ a1) (old_a2 : n0 ≤ a2) (old_a3 : n0 ≤ a3) (ne_a1_a2 : a1 ≠ a2) (ne_a1_a3 : a1 ≠ a3) (ne_a2_a3 : a2 ≠ a3) (E_a1 : Exa Z h0 a1 "com/example/kurslot/kurslot/book/PriceLevel") (F_better_a1 : Fld Z h0 a1 "com/example/kurslot/kurslot/book/PriceLevel" "better" "Lcom/example/kurslot/kurslot/book/PriceLevel;" .null) (F_worse_a1 : Fld Z h0 a1 "com/example/kurslot/kurslot/book/PriceLevel" "worse" "Lcom/example/kurslot/kurslot/book/PriceLevel;" .null) (E_a2 : Exa Z h0 a2 "com/example/kurslot/kurslot/book/PriceLevel") (F_better_a2 : Fld Z h0 a2 "com/example/kurslot/kurslot/book/PriceLevel" "better" "Lcom/example/kurslot/kurslot/book/PriceLevel;" .null) (F_worse_a2 : Fld Z h0 a2 "com/example/kurslot/kurslot/book/PriceLevel" "worse" "Lcom/example/kurslot/kurslot/book/PriceLevel;" .null) (E_a3 : Exa Z h0 a3 "com/example/kurslot/kurslot/book/PriceLevel") (F_better_a3 : Fld Z h0 a3 "com/example/kurslot/kurslot/book/PriceLevel" "better" "Lcom/example/kurslot/kurslot/book/PriceLevel;" .null) (F_worse_a3 : Fld Z h0 a3 "com/example/kurslot/kurslot/book/PriceLevel" "worse" "Lcom/example/kurslot/kurslot/book/PriceLevel;" (.ref a4)) :
    OMet l Z (⟨"com/example/kurslot/kurslot/book/PriceLevel", "linkBetween", "(Lcom/example/kurslot/kurslot/book/PriceLevel;Lcom/example/kurslot/kurslot/book/PriceLevel;)V"⟩ : MethodName) prog_9_method_14_code 3 none [] ({ frames := 0, cells := 0, slots := 0, locals := 0 } : Room) #[(.ref a1), (.ref a2), (.ref a3)] h0 (fun v h' L => v = none ∧ Fr n0 L ∧ Keep h0 h' [a1, a2, a3] ∧ Exa Z h' a1 "com/example/kurslot/kurslot/book/PriceLevel" ∧ Fld Z h' a1 "com/example/kurslot/kurslot/book/PriceLevel" "better" "Lcom/example/kurslot/kurslot/book/PriceLevel;" (.ref a2) ∧ Fld Z h' a1 "com/example/kurslot/kurslot/book/PriceLevel" "worse" "Lcom/example/kurslot/kurslot/book/PriceLevel;" (.ref a3) ∧ Exa Z h' a2 "com/example/kurslot/kurslot/book/PriceLevel" ∧ Fld Z h' a2 "com/example/kurslot/kurslot/book/PriceLevel" "better" "Lcom/example/kurslot/kurslot/book/PriceLevel;" .null ∧ Fld Z h' a2 "com/example/kurslot/kurslot/book/PriceLevel" "worse" "Lcom/example/kurslot/kurslot/book/PriceLevel;" (.ref a1) ∧ Exa Z h' a3 "com/example/kurslot/kurslot/book/PriceLevel" ∧ Fld Z h' a3 "com/example/kurslot/kurslot/book/PriceLevel" "better" "Lcom/example/kurslot/kurslot/book/PriceLevel;" (.ref a1) ∧ Fld Z h' a3 "com/example/kurslot/kurslot/book/PriceLevel" "worse" "Lcom/example/kurslot/kurslot/book/PriceLevel;" (.ref a4)) := by
  refine own_body (plainFor_of_name pn_com_example_kurslot_kurslot_book_PriceLevel) (fun m => ef_3_RRR m a1 a2 a3) ?_
  intro p e s m below meth c T0 hx hby hml hown hnm hret hlk hZ X0 e0
  have hown : s.vm.findClass "com/example/kurslot/kurslot/book/PriceLevel" = some m.cls := hown
  have hml : c.maxLocals = 3 := hml
  have N0 := Fr.nil n0
  have K0 := Keep.refl h0 [a1, a2, a3]
  show OGo p e below s _ _ (T0.setTop (mkF m 0 #[.val (.ref a1), .val (.ref a2), .val (.ref a3)] []))
  refine own_st (fun t k => XS.aloadN X0.here hx rfl (hb hby d3_0) rfl rfl k) ?_
  show OGo p e below s _ _ (T0.setTop (mkF m 1 #[.val (.ref a1), .val (.ref a2), .val (.ref a3)] [(.ref a1)]))
  refine own_st (fun t k => XS.aloadN X0.here hx rfl (hb hby d3_1) rfl rfl k) ?_
  show OGo p e below s _ _ (T0.setTop (mkF m 2 #[.val (.ref a1), .val (.ref a2), .val (.ref a3)] [(.ref a2), (.ref a1)]))
  obtain ⟨T19, hp19, X19, e19, Ww19, st19⟩ := putF X0 hx hZ hown (host := "") (Or.inl (hw _ (List.mem_of_getElem? (i := 31) rfl))) Via.refl e0 F_better_a1 E_a1 (Or.inl (hw _ (List.mem_of_getElem? (i := 32) rfl))) (hw _ (List.mem_of_getElem? (i := 4) rfl)) (ty := (.object "com/example/kurslot/kurslot/book/PriceLevel")) (by decide) rfl rfl (g := (mkF m 2 #[.val (.ref a1), .val (.ref a2), .val (.ref a3)] [(.ref a2), (.ref a1)])) rfl rfl (hb hby d3_2)
  have Nf19 := Fr.snoc X19 N0 old_a1
  have Z0 := Nat.le_trans Z0 (Keep.of_wr Ww19).1
  have K0 := K0.wr Ww19 (Or.inl (List.mem_of_getElem? (i := 0) rfl))
  have E_a1 := E_a1.wr Ww19
  have F_better_a1 := F_better_a1.same Ww19
  have F_worse_a1 := F_worse_a1.other Ww19 (Or.inr (slot_ne (Or.inl (hw _ (List.mem_of_getElem? (i := 34) rfl))) (Or.inl (hw _ (List.mem_of_getElem? (i := 32) rfl))) (by decide) (t := (.object "com/example/kurslot/kurslot/book/PriceLevel")) (t' := (.object "com/example/kurslot/kurslot/book/PriceLevel")) (by decide) (by decide)))
  have E_a2 := E_a2.wr Ww19
  have F_better_a2 := F_better_a2.other Ww19 (Or.inl (Ne.symm ne_a1_a2))
  have F_worse_a2 := F_worse_a2.other Ww19 (Or.inl (Ne.symm ne_a1_a2))
  have E_a3 := E_a3.wr Ww19
  have F_better_a3 := F_better_a3.other Ww19 (Or.inl (Ne.symm ne_a1_a3))
  have F_worse_a3 := F_worse_a3.other Ww19 (Or.inl (Ne.symm ne_a1_a3))
  refine own_st st19 ?_
  show OGo p e below s _ _ (T19.setTop (mkF m 5 #[.val (.ref a1), .val (.ref a2), .val (.ref a3)] []))
  refine own_st (fun t k => XS.aloadN X19.here hx rfl (hb hby d3_5) rfl rfl k) ?_
  show OGo p e below s _ _ (T19.setTop (mkF m 6 #[.val (.ref a1), .val (.ref a2), .val (.ref a3)] [(.ref a1)]))
  refine own_st (fun t k => XS.aloadN X19.here hx rfl (hb hby d3_6) rfl rfl k) ?_
  show OGo p e below s _ _ (T19.setTop (mkF m 7 #[.val (.ref a1), .val (.ref a2), .val (.ref a3)] [(.ref a3), (.ref a1)]))
  obtain ⟨T20, hp20, X20, e20, Ww20, st20⟩ := putF X19 hx hZ hown (host := "") (Or.inl (hw _ (List.mem_of_getElem? (i := 33) rfl))) Via.refl e19 F_worse_a1 E_a1 (Or.inl (hw _ (List.mem_of_getElem? (i := 34) rfl))) (hw _ (List.mem_of_getElem? (i := 4) rfl)) (ty := (.object "com/example/kurslot/kurslot/book/PriceLevel")) (by decide) rfl rfl (g := (mkF m 7 #[.val (.ref a1), .val (.ref a2), .val (.ref a3)] [(.ref a3), (.ref a1)])) rfl rfl (hb hby d3_7)
  have Nf20 := Fr.snoc X20 Nf19 old_a1
  have Z0 := Nat.le_trans Z0 (Keep.of_wr Ww20).1
  have K0 := K0.wr Ww20 (Or.inl (List.mem_of_getElem? (i := 0) rfl))
  have E_a1 := E_a1.wr Ww20
  have F_better_a1 := F_better_a1.other Ww20 (Or.inr (slot_ne (Or.inl (hw _ (List.mem_of_getElem? (i := 32) rfl))) (Or.inl (hw _ (List.mem_of_getElem? (i := 34) rfl))) (by decide) (t := (.object "com/example/kurslot/kurslot/book/PriceLevel")) (t' := (.object "com/example/kurslot/kurslot/book/PriceLevel")) (by decide) (by decide)))
  have F_worse_a1 := F_worse_a1.same Ww20
  have E_a2 := E_a2.wr Ww20
  have F_better_a2 := F_better_a2.other Ww20 (Or.inl (Ne.symm ne_a1_a2))
  have F_worse_a2 := F_worse_a2.other Ww20 (Or.inl (Ne.symm ne_a1_a2))
  have E_a3 := E_a3.wr Ww20
  have F_better_a3 := F_better_a3.other Ww20 (Or.inl (Ne.symm ne_a1_a3))
  have F_worse_a3 := F_worse_a3.other Ww20 (Or.inl (Ne.symm ne_a1_a3))
  refine own_st st20 ?_
  show OGo p e below s _ _ (T20.setTop (mkF m 10 #[.val (.ref a1), .val (.ref a2), .val (.ref a3)] []))
  refine own_st (fun t k => XS.aloadN X20.here hx rfl (hb hby d3_10) rfl rfl k) ?_
  show OGo p e below s _ _ (T20.setTop (mkF m 11 #[.val (.ref a1), .val (.ref a2), .val (.ref a3)] [(.ref a2)]))
  refine own_st (fun t k => XS.ifnullNo X20.here hx rfl (hb hby d3_11) rfl k) ?_
  show OGo p e below s _ _ (T20.setTop (mkF m 14 #[.val (.ref a1), .val (.ref a2), .val (.ref a3)] []))
  refine own_st (fun t k => XS.aloadN X20.here hx rfl (hb hby d3_14) rfl rfl k) ?_
  show OGo p e below s _ _ (T20.setTop (mkF m 15 #[.val (.ref a1), .val (.ref a2), .val (.ref a3)] [(.ref a2)]))
  refine own_st (fun t k => XS.aloadN X20.here hx rfl (hb hby d3_15) rfl rfl k) ?_
  show OGo p e below s _ _ (T20.setTop (mkF m 16 #[.val (.ref a1), .val (.ref a2), .val (.ref a3)] [(.ref a1), (.ref a2)]))
  obtain ⟨T21, hp21, X21, e21, Ww21, st21⟩ := putF X20 hx hZ hown (host := "") (Or.inl (hw _ (List.mem_of_getElem? (i := 33) rfl))) Via.refl e20 F_worse_a2 E_a2 (Or.inl (hw _ (List.mem_of_getElem? (i := 34) rfl))) (hw _ (List.mem_of_getElem? (i := 4) rfl)) (ty := (.object "com/example/kurslot/kurslot/book/PriceLevel")) (by decide) rfl rfl (g := (mkF m 16 #[.val (.ref a1), .val (.ref a2), .val (.ref a3)] [(.ref a1), (.ref a2)])) rfl rfl (hb hby d3_16)
  have Nf21 := Fr.snoc X21 Nf20 old_a2
  have Z0 := Nat.le_trans Z0 (Keep.of_wr Ww21).1
  have K0 := K0.wr Ww21 (Or.inl (List.mem_of_getElem? (i := 1) rfl))
  have E_a1 := E_a1.wr Ww21
  have F_better_a1 := F_better_a1.other Ww21 (Or.inl ne_a1_a2)
  have F_worse_a1 := F_worse_a1.other Ww21 (Or.inl ne_a1_a2)
  have E_a2 := E_a2.wr Ww21
  have F_better_a2 := F_better_a2.other Ww21 (Or.inr (slot_ne (Or.inl (hw _ (List.mem_of_getElem? (i := 32) rfl))) (Or.inl (hw _ (List.mem_of_getElem? (i := 34) rfl))) (by decide) (t := (.object "com/example/kurslot/kurslot/book/PriceLevel")) (t' := (.object "com/example/kurslot/kurslot/book/PriceLevel")) (by decide) (by decide)))
  have F_worse_a2 := F_worse_a2.same Ww21
  have E_a3 := E_a3.wr Ww21
  have F_better_a3 := F_better_a3.other Ww21 (Or.inl (Ne.symm ne_a2_a3))
  have F_worse_a3 := F_worse_a3.other Ww21 (Or.inl (Ne.symm ne_a2_a3))
  refine own_st st21 ?_
  show OGo p e below s _ _ (T21.setTop (mkF m 19 #[.val (.ref a1), .val (.ref a2), .val (.ref a3)] []))
  refine own_st (fun t k => XS.aloadN X21.here hx rfl (hb hby d3_19) rfl rfl k) ?_
  show OGo p e below s _ _ (T21.setTop (mkF m 20 #[.val (.ref a1), .val (.ref a2), .val (.ref a3)] [(.ref a3)]))
  refine own_st (fun t k => XS.ifnullNo X21.here hx rfl (hb hby d3_20) rfl k) ?_
  show OGo p e below s _ _ (T21.setTop (mkF m 23 #[.val (.ref a1), .val (.ref a2), .val (.ref a3)] []))
  refine own_st (fun t k => XS.aloadN X21.here hx rfl (hb hby d3_23) rfl rfl k) ?_
  show OGo p e below s _ _ (T21.setTop (mkF m 24 #[.val (.ref a1), .val (.ref a2), .val (.ref a3)] [(.ref a3)]))
  refine own_st (fun t k => XS.aloadN X21.here hx rfl (hb hby d3_24) rfl rfl k) ?_
  show OGo p e below s _ _ (T21.setTop (mkF m 25 #[.val (.ref a1), .val (.ref a2), .val (.ref a3)] [(.ref a1), (.ref a3)]))
  obtain ⟨T22, hp22, X22, e22, Ww22, st22⟩ := putF X21 hx hZ hown (host := "") (Or.inl (hw _ (List.mem_of_getElem? (i := 31) rfl))) Via.refl e21 F_better_a3 E_a3 (Or.inl (hw _ (List.mem_of_getElem? (i := 32) rfl))) (hw _ (List.mem_of_getElem? (i := 4) rfl)) (ty := (.object "com/example/kurslot/kurslot/book/PriceLevel")) (by decide) rfl rfl (g := (mkF m 25 #[.val (.ref a1), .val (.ref a2), .val (.ref a3)] [(.ref a1), (.ref a3)])) rfl rfl (hb hby d3_25)
  have Nf22 := Fr.snoc X22 Nf21 old_a3
  have Z0 := Nat.le_trans Z0 (Keep.of_wr Ww22).1
  have K0 := K0.wr Ww22 (Or.inl (List.mem_of_getElem? (i := 2) rfl))
  have E_a1 := E_a1.wr Ww22
  have F_better_a1 := F_better_a1.other Ww22 (Or.inl ne_a1_a3)
  have F_worse_a1 := F_worse_a1.other Ww22 (Or.inl ne_a1_a3)
  have E_a2 := E_a2.wr Ww22
  have F_better_a2 := F_better_a2.other Ww22 (Or.inl ne_a2_a3)
  have F_worse_a2 := F_worse_a2.other Ww22 (Or.inl ne_a2_a3)
  have E_a3 := E_a3.wr Ww22
  have F_better_a3 := F_better_a3.same Ww22
  have F_worse_a3 := F_worse_a3.other Ww22 (Or.inr (slot_ne (Or.inl (hw _ (List.mem_of_getElem? (i := 34) rfl))) (Or.inl (hw _ (List.mem_of_getElem? (i := 32) rfl))) (by decide) (t := (.object "com/example/kurslot/kurslot/book/PriceLevel")) (t' := (.object "com/example/kurslot/kurslot/book/PriceLevel")) (by decide) (by decide)))
  refine own_st st22 ?_
  show OGo p e below s _ _ (T22.setTop (mkF m 28 #[.val (.ref a1), .val (.ref a2), .val (.ref a3)] []))
  exact own_retV X22 hx hlk hret (hb hby d3_28) (by decide) (by decide) (⟨rfl, Nf22, (by rw [e22]; exact K0), (by rw [e22]; exact E_a1), (by rw [e22]; exact F_better_a1), (by rw [e22]; exact F_worse_a1), (by rw [e22]; exact E_a2), (by rw [e22]; exact F_better_a2), (by rw [e22]; exact F_worse_a2), (by rw [e22]; exact E_a3), (by rw [e22]; exact F_better_a3), (by rw [e22]; exact F_worse_a3)⟩)
theorem d4_0 : decode prog_9_method_15_code 0 = .ok (.aload_n 0, 1) := by decide +kernel
theorem d4_1 : decode prog_9_method_15_code 1 = .ok (.getfield 40, 3) := by decide +kernel
theorem d4_4 : decode prog_9_method_15_code 4 = .ok (.ifnull 14, 3) := by decide +kernel
theorem d4_18 : decode prog_9_method_15_code 18 = .ok (.aload_n 0, 1) := by decide +kernel
theorem d4_19 : decode prog_9_method_15_code 19 = .ok (.getfield 36, 3) := by decide +kernel
theorem d4_22 : decode prog_9_method_15_code 22 = .ok (.ifnull 14, 3) := by decide +kernel
theorem d4_36 : decode prog_9_method_15_code 36 = .ok (.aload_n 0, 1) := by decide +kernel
theorem d4_37 : decode prog_9_method_15_code 37 = .ok (.aconst_null, 1) := by decide +kernel
theorem d4_38 : decode prog_9_method_15_code 38 = .ok (.putfield 40, 3) := by decide +kernel
theorem d4_41 : decode prog_9_method_15_code 41 = .ok (.aload_n 0, 1) := by decide +kernel
theorem d4_42 : decode prog_9_method_15_code 42 = .ok (.aconst_null, 1) := by decide +kernel
theorem d4_43 : decode prog_9_method_15_code 43 = .ok (.putfield 36, 3) := by decide +kernel
theorem d4_46 : decode prog_9_method_15_code 46 = .ok (.return_, 1) := by decide +kernel
theorem ef_4_R (m : MethodId) (x0 : Addr) : entryFrame m #[(.ref x0)] 1 = mkF m 0 #[.val (.ref x0)] [] := by first | (simp [entryFrame, mkF, argsToLocals, Value.category]; done) | rfl
set_option maxRecDepth 65536 in
set_option maxHeartbeats 40000000 in
theorem rm4_00 (l : Launch) (Z : State) (a0 : Array Value) (hw : ∀ d ∈ tables_1, d.before a0 Z = true) (a1 : Addr) (h0 : Heap) (n0 : Nat) (Z0 : n0 ≤ h0.size) (old_a1 : n0 ≤ a1) (E_a1 : Exa Z h0 a1 "com/example/kurslot/kurslot/book/PriceLevel") (F_better_a1 : Fld Z h0 a1 "com/example/kurslot/kurslot/book/PriceLevel" "better" "Lcom/example/kurslot/kurslot/book/PriceLevel;" .null) (F_worse_a1 : Fld Z h0 a1 "com/example/kurslot/kurslot/book/PriceLevel" "worse" "Lcom/example/kurslot/kurslot/book/PriceLevel;" .null) :
    OMet l Z (⟨"com/example/kurslot/kurslot/book/PriceLevel", "unlink", "()V"⟩ : MethodName) prog_9_method_15_code 1 none [] ({ frames := 0, cells := 0, slots := 0, locals := 0 } : Room) #[(.ref a1)] h0 (fun v h' L => v = none ∧ Fr n0 L ∧ Keep h0 h' [a1] ∧ Exa Z h' a1 "com/example/kurslot/kurslot/book/PriceLevel" ∧ Fld Z h' a1 "com/example/kurslot/kurslot/book/PriceLevel" "better" "Lcom/example/kurslot/kurslot/book/PriceLevel;" .null ∧ Fld Z h' a1 "com/example/kurslot/kurslot/book/PriceLevel" "worse" "Lcom/example/kurslot/kurslot/book/PriceLevel;" .null) := by
  refine own_body (plainFor_of_name pn_com_example_kurslot_kurslot_book_PriceLevel) (fun m => ef_4_R m a1) ?_
  intro p e s m below meth c T0 hx hby hml hown hnm hret hlk hZ X0 e0
  have hown : s.vm.findClass "com/example/kurslot/kurslot/book/PriceLevel" = some m.cls := hown
  have hml : c.maxLocals = 1 := hml
  have N0 := Fr.nil n0
  have K0 := Keep.refl h0 [a1]
  show OGo p e below s _ _ (T0.setTop (mkF m 0 #[.val (.ref a1)] []))
  refine own_st (fun t k => XS.aloadN X0.here hx rfl (hb hby d4_0) rfl rfl k) ?_
  show OGo p e below s _ _ (T0.setTop (mkF m 1 #[.val (.ref a1)] [(.ref a1)]))
  obtain ⟨T23, X23, e23, st23⟩ := getF X0 hx hZ hown (host := "") (Or.inl (hw _ (List.mem_of_getElem? (i := 31) rfl))) Via.refl e0 F_better_a1 (g := (mkF m 1 #[.val (.ref a1)] [(.ref a1)])) rfl rfl (hb hby d4_1)
  refine own_st st23 ?_
  show OGo p e below s _ _ (T23.setTop (mkF m 4 #[.val (.ref a1)] [.null]))
  refine own_st (fun t k => XS.ifnullYes X23.here hx rfl (pc0 := 4) (pc' := 18) rfl (hb hby d4_4) rfl (by decide) (by decide) k) ?_
  show OGo p e below s _ _ (T23.setTop (mkF m 18 #[.val (.ref a1)] []))
  refine own_st (fun t k => XS.aloadN X23.here hx rfl (hb hby d4_18) rfl rfl k) ?_
  show OGo p e below s _ _ (T23.setTop (mkF m 19 #[.val (.ref a1)] [(.ref a1)]))
  obtain ⟨T24, X24, e24, st24⟩ := getF X23 hx hZ hown (host := "") (Or.inl (hw _ (List.mem_of_getElem? (i := 33) rfl))) Via.refl e23 F_worse_a1 (g := (mkF m 19 #[.val (.ref a1)] [(.ref a1)])) rfl rfl (hb hby d4_19)
  refine own_st st24 ?_
  show OGo p e below s _ _ (T24.setTop (mkF m 22 #[.val (.ref a1)] [.null]))
  refine own_st (fun t k => XS.ifnullYes X24.here hx rfl (pc0 := 22) (pc' := 36) rfl (hb hby d4_22) rfl (by decide) (by decide) k) ?_
  show OGo p e below s _ _ (T24.setTop (mkF m 36 #[.val (.ref a1)] []))
  refine own_st (fun t k => XS.aloadN X24.here hx rfl (hb hby d4_36) rfl rfl k) ?_
  show OGo p e below s _ _ (T24.setTop (mkF m 37 #[.val (.ref a1)] [(.ref a1)]))
  refine own_st (fun t k => XS.aconstNull X24.here hx rfl (hb hby d4_37) k) ?_
  show OGo p e below s _ _ (T24.setTop (mkF m 38 #[.val (.ref a1)] [.null, (.ref a1)]))
  obtain ⟨T25, hp25, X25, e25, Ww25, st25⟩ := putF X24 hx hZ hown (host := "") (Or.inl (hw _ (List.mem_of_getElem? (i := 31) rfl))) Via.refl e24 F_better_a1 E_a1 (Or.inl (hw _ (List.mem_of_getElem? (i := 32) rfl))) (hw _ (List.mem_of_getElem? (i := 4) rfl)) (ty := (.object "com/example/kurslot/kurslot/book/PriceLevel")) (by decide) rfl rfl (g := (mkF m 38 #[.val (.ref a1)] [.null, (.ref a1)])) rfl rfl (hb hby d4_38)
  have Nf25 := Fr.snoc X25 N0 old_a1
  have Z0 := Nat.le_trans Z0 (Keep.of_wr Ww25).1
  have K0 := K0.wr Ww25 (Or.inl (List.mem_of_getElem? (i := 0) rfl))
  have E_a1 := E_a1.wr Ww25
  have F_better_a1 := F_better_a1.same Ww25
  have F_worse_a1 := F_worse_a1.other Ww25 (Or.inr (slot_ne (Or.inl (hw _ (List.mem_of_getElem? (i := 34) rfl))) (Or.inl (hw _ (List.mem_of_getElem? (i := 32) rfl))) (by decide) (t := (.object "com/example/kurslot/kurslot/book/PriceLevel")) (t' := (.object "com/example/kurslot/kurslot/book/PriceLevel")) (by decide) (by decide)))
  refine own_st st25 ?_
  show OGo p e below s _ _ (T25.setTop (mkF m 41 #[.val (.ref a1)] []))
  refine own_st (fun t k => XS.aloadN X25.here hx rfl (hb hby d4_41) rfl rfl k) ?_
  show OGo p e below s _ _ (T25.setTop (mkF m 42 #[.val (.ref a1)] [(.ref a1)]))
  refine own_st (fun t k => XS.aconstNull X25.here hx rfl (hb hby d4_42) k) ?_
  show OGo p e below s _ _ (T25.setTop (mkF m 43 #[.val (.ref a1)] [.null, (.ref a1)]))
  obtain ⟨T26, hp26, X26, e26, Ww26, st26⟩ := putF X25 hx hZ hown (host := "") (Or.inl (hw _ (List.mem_of_getElem? (i := 33) rfl))) Via.refl e25 F_worse_a1 E_a1 (Or.inl (hw _ (List.mem_of_getElem? (i := 34) rfl))) (hw _ (List.mem_of_getElem? (i := 4) rfl)) (ty := (.object "com/example/kurslot/kurslot/book/PriceLevel")) (by decide) rfl rfl (g := (mkF m 43 #[.val (.ref a1)] [.null, (.ref a1)])) rfl rfl (hb hby d4_43)
  have Nf26 := Fr.snoc X26 Nf25 old_a1
  have Z0 := Nat.le_trans Z0 (Keep.of_wr Ww26).1
  have K0 := K0.wr Ww26 (Or.inl (List.mem_of_getElem? (i := 0) rfl))
  have E_a1 := E_a1.wr Ww26
  have F_better_a1 := F_better_a1.other Ww26 (Or.inr (slot_ne (Or.inl (hw _ (List.mem_of_getElem? (i := 32) rfl))) (Or.inl (hw _ (List.mem_of_getElem? (i := 34) rfl))) (by decide) (t := (.object "com/example/kurslot/kurslot/book/PriceLevel")) (t' := (.object "com/example/kurslot/kurslot/book/PriceLevel")) (by decide) (by decide)))
  have F_worse_a1 := F_worse_a1.same Ww26
  refine own_st st26 ?_
  show OGo p e below s _ _ (T26.setTop (mkF m 46 #[.val (.ref a1)] []))
  exact own_retV X26 hx hlk hret (hb hby d4_46) (by decide) (by decide) (⟨rfl, Nf26, (by rw [e26]; exact K0), (by rw [e26]; exact E_a1), (by rw [e26]; exact F_better_a1), (by rw [e26]; exact F_worse_a1)⟩)
theorem d4_25 : decode prog_9_method_15_code 25 = .ok (.aload_n 0, 1) := by decide +kernel
theorem d4_26 : decode prog_9_method_15_code 26 = .ok (.getfield 36, 3) := by decide +kernel
theorem d4_29 : decode prog_9_method_15_code 29 = .ok (.aload_n 0, 1) := by decide +kernel
theorem d4_30 : decode prog_9_method_15_code 30 = .ok (.getfield 40, 3) := by decide +kernel
theorem d4_33 : decode prog_9_method_15_code 33 = .ok (.putfield 40, 3) := by decide +kernel
set_option maxRecDepth 65536 in
set_option maxHeartbeats 40000000 in
theorem rm4_01 (l : Launch) (Z : State) (a0 : Array Value) (hw : ∀ d ∈ tables_1, d.before a0 Z = true) (a1 : Addr) (a3 : Addr) (v3 : Value) (h0 : Heap) (n0 : Nat) (Z0 : n0 ≤ h0.size) (old_a1 : n0 ≤ a1) (old_a3 : n0 ≤ a3) (ne_a1_a3 : a1 ≠ a3) (E_a1 : Exa Z h0 a1 "com/example/kurslot/kurslot/book/PriceLevel") (F_better_a1 : Fld Z h0 a1 "com/example/kurslot/kurslot/book/PriceLevel" "better" "Lcom/example/kurslot/kurslot/book/PriceLevel;" .null) (F_worse_a1 : Fld Z h0 a1 "com/example/kurslot/kurslot/book/PriceLevel" "worse" "Lcom/example/kurslot/kurslot/book/PriceLevel;" (.ref a3)) (E_a3 : Exa Z h0 a3 "com/example/kurslot/kurslot/book/PriceLevel") (F_better_a3 : Fld Z h0 a3 "com/example/kurslot/kurslot/book/PriceLevel" "better" "Lcom/example/kurslot/kurslot/book/PriceLevel;" (.ref a1)) (F_worse_a3 : Fld Z h0 a3 "com/example/kurslot/kurslot/book/PriceLevel" "worse" "Lcom/example/kurslot/kurslot/book/PriceLevel;" v3) :
    OMet l Z (⟨"com/example/kurslot/kurslot/book/PriceLevel", "unlink", "()V"⟩ : MethodName) prog_9_method_15_code 1 none [] ({ frames := 0, cells := 0, slots := 0, locals := 0 } : Room) #[(.ref a1)] h0 (fun v h' L => v = none ∧ Fr n0 L ∧ Keep h0 h' [a1, a3] ∧ Exa Z h' a1 "com/example/kurslot/kurslot/book/PriceLevel" ∧ Fld Z h' a1 "com/example/kurslot/kurslot/book/PriceLevel" "better" "Lcom/example/kurslot/kurslot/book/PriceLevel;" .null ∧ Fld Z h' a1 "com/example/kurslot/kurslot/book/PriceLevel" "worse" "Lcom/example/kurslot/kurslot/book/PriceLevel;" .null ∧ Exa Z h' a3 "com/example/kurslot/kurslot/book/PriceLevel" ∧ Fld Z h' a3 "com/example/kurslot/kurslot/book/PriceLevel" "better" "Lcom/example/kurslot/kurslot/book/PriceLevel;" .null ∧ Fld Z h' a3 "com/example/kurslot/kurslot/book/PriceLevel" "worse" "Lcom/example/kurslot/kurslot/book/PriceLevel;" v3) := by
  refine own_body (plainFor_of_name pn_com_example_kurslot_kurslot_book_PriceLevel) (fun m => ef_4_R m a1) ?_
  intro p e s m below meth c T0 hx hby hml hown hnm hret hlk hZ X0 e0
  have hown : s.vm.findClass "com/example/kurslot/kurslot/book/PriceLevel" = some m.cls := hown
  have hml : c.maxLocals = 1 := hml
  have N0 := Fr.nil n0
  have K0 := Keep.refl h0 [a1, a3]
  show OGo p e below s _ _ (T0.setTop (mkF m 0 #[.val (.ref a1)] []))
  refine own_st (fun t k => XS.aloadN X0.here hx rfl (hb hby d4_0) rfl rfl k) ?_
  show OGo p e below s _ _ (T0.setTop (mkF m 1 #[.val (.ref a1)] [(.ref a1)]))
  obtain ⟨T27, X27, e27, st27⟩ := getF X0 hx hZ hown (host := "") (Or.inl (hw _ (List.mem_of_getElem? (i := 31) rfl))) Via.refl e0 F_better_a1 (g := (mkF m 1 #[.val (.ref a1)] [(.ref a1)])) rfl rfl (hb hby d4_1)
  refine own_st st27 ?_
  show OGo p e below s _ _ (T27.setTop (mkF m 4 #[.val (.ref a1)] [.null]))
  refine own_st (fun t k => XS.ifnullYes X27.here hx rfl (pc0 := 4) (pc' := 18) rfl (hb hby d4_4) rfl (by decide) (by decide) k) ?_
  show OGo p e below s _ _ (T27.setTop (mkF m 18 #[.val (.ref a1)] []))
  refine own_st (fun t k => XS.aloadN X27.here hx rfl (hb hby d4_18) rfl rfl k) ?_
  show OGo p e below s _ _ (T27.setTop (mkF m 19 #[.val (.ref a1)] [(.ref a1)]))
  obtain ⟨T28, X28, e28, st28⟩ := getF X27 hx hZ hown (host := "") (Or.inl (hw _ (List.mem_of_getElem? (i := 33) rfl))) Via.refl e27 F_worse_a1 (g := (mkF m 19 #[.val (.ref a1)] [(.ref a1)])) rfl rfl (hb hby d4_19)
  refine own_st st28 ?_
  show OGo p e below s _ _ (T28.setTop (mkF m 22 #[.val (.ref a1)] [(.ref a3)]))
  refine own_st (fun t k => XS.ifnullNo X28.here hx rfl (hb hby d4_22) rfl k) ?_
  show OGo p e below s _ _ (T28.setTop (mkF m 25 #[.val (.ref a1)] []))
  refine own_st (fun t k => XS.aloadN X28.here hx rfl (hb hby d4_25) rfl rfl k) ?_
  show OGo p e below s _ _ (T28.setTop (mkF m 26 #[.val (.ref a1)] [(.ref a1)]))
  obtain ⟨T29, X29, e29, st29⟩ := getF X28 hx hZ hown (host := "") (Or.inl (hw _ (List.mem_of_getElem? (i := 33) rfl))) Via.refl e28 F_worse_a1 (g := (mkF m 26 #[.val (.ref a1)] [(.ref a1)])) rfl rfl (hb hby d4_26)
  refine own_st st29 ?_
  show OGo p e below s _ _ (T29.setTop (mkF m 29 #[.val (.ref a1)] [(.ref a3)]))
  refine own_st (fun t k => XS.aloadN X29.here hx rfl (hb hby d4_29) rfl rfl k) ?_
  show OGo p e below s _ _ (T29.setTop (mkF m 30 #[.val (.ref a1)] [(.ref a1), (.ref a3)]))
  obtain ⟨T30, X30, e30, st30⟩ := getF X29 hx hZ hown (host := "") (Or.inl (hw _ (List.mem_of_getElem? (i := 31) rfl))) Via.refl e29 F_better_a1 (g := (mkF m 30 #[.val (.ref a1)] [(.ref a1), (.ref a3)])) rfl rfl (hb hby d4_30)
  refine own_st st30 ?_
  show OGo p e below s _ _ (T30.setTop (mkF m 33 #[.val (.ref a1)] [.null, (.ref a3)]))
  obtain ⟨T31, hp31, X31, e31, Ww31, st31⟩ := putF X30 hx hZ hown (host := "") (Or.inl (hw _ (List.mem_of_getElem? (i := 31) rfl))) Via.refl e30 F_better_a3 E_a3 (Or.inl (hw _ (List.mem_of_getElem? (i := 32) rfl))) (hw _ (List.mem_of_getElem? (i := 4) rfl)) (ty := (.object "com/example/kurslot/kurslot/book/PriceLevel")) (by decide) rfl rfl (g := (mkF m 33 #[.val (.ref a1)] [.null, (.ref a3)])) rfl rfl (hb hby d4_33)
  have Nf31 := Fr.snoc X31 N0 old_a3
  have Z0 := Nat.le_trans Z0 (Keep.of_wr Ww31).1
  have K0 := K0.wr Ww31 (Or.inl (List.mem_of_getElem? (i := 1) rfl))
  have E_a1 := E_a1.wr Ww31
  have F_better_a1 := F_better_a1.other Ww31 (Or.inl ne_a1_a3)
  have F_worse_a1 := F_worse_a1.other Ww31 (Or.inl ne_a1_a3)
  have E_a3 := E_a3.wr Ww31
  have F_better_a3 := F_better_a3.same Ww31
  have F_worse_a3 := F_worse_a3.other Ww31 (Or.inr (slot_ne (Or.inl (hw _ (List.mem_of_getElem? (i := 34) rfl))) (Or.inl (hw _ (List.mem_of_getElem? (i := 32) rfl))) (by decide) (t := (.object "com/example/kurslot/kurslot/book/PriceLevel")) (t' := (.object "com/example/kurslot/kurslot/book/PriceLevel")) (by decide) (by decide)))
  refine own_st st31 ?_
  show OGo p e below s _ _ (T31.setTop (mkF m 36 #[.val (.ref a1)] []))
  refine own_st (fun t k => XS.aloadN X31.here hx rfl (hb hby d4_36) rfl rfl k) ?_
  show OGo p e below s _ _ (T31.setTop (mkF m 37 #[.val (.ref a1)] [(.ref a1)]))
  refine own_st (fun t k => XS.aconstNull X31.here hx rfl (hb hby d4_37) k) ?_
  show OGo p e below s _ _ (T31.setTop (mkF m 38 #[.val (.ref a1)] [.null, (.ref a1)]))
  obtain ⟨T32, hp32, X32, e32, Ww32, st32⟩ := putF X31 hx hZ hown (host := "") (Or.inl (hw _ (List.mem_of_getElem? (i := 31) rfl))) Via.refl e31 F_better_a1 E_a1 (Or.inl (hw _ (List.mem_of_getElem? (i := 32) rfl))) (hw _ (List.mem_of_getElem? (i := 4) rfl)) (ty := (.object "com/example/kurslot/kurslot/book/PriceLevel")) (by decide) rfl rfl (g := (mkF m 38 #[.val (.ref a1)] [.null, (.ref a1)])) rfl rfl (hb hby d4_38)
  have Nf32 := Fr.snoc X32 Nf31 old_a1
  have Z0 := Nat.le_trans Z0 (Keep.of_wr Ww32).1
  have K0 := K0.wr Ww32 (Or.inl (List.mem_of_getElem? (i := 0) rfl))
  have E_a1 := E_a1.wr Ww32
  have F_better_a1 := F_better_a1.same Ww32
  have F_worse_a1 := F_worse_a1.other Ww32 (Or.inr (slot_ne (Or.inl (hw _ (List.mem_of_getElem? (i := 34) rfl))) (Or.inl (hw _ (List.mem_of_getElem? (i := 32) rfl))) (by decide) (t := (.object "com/example/kurslot/kurslot/book/PriceLevel")) (t' := (.object "com/example/kurslot/kurslot/book/PriceLevel")) (by decide) (by decide)))
  have E_a3 := E_a3.wr Ww32
  have F_better_a3 := F_better_a3.other Ww32 (Or.inl (Ne.symm ne_a1_a3))
  have F_worse_a3 := F_worse_a3.other Ww32 (Or.inl (Ne.symm ne_a1_a3))
  refine own_st st32 ?_
  show OGo p e below s _ _ (T32.setTop (mkF m 41 #[.val (.ref a1)] []))
  refine own_st (fun t k => XS.aloadN X32.here hx rfl (hb hby d4_41) rfl rfl k) ?_
  show OGo p e below s _ _ (T32.setTop (mkF m 42 #[.val (.ref a1)] [(.ref a1)]))
  refine own_st (fun t k => XS.aconstNull X32.here hx rfl (hb hby d4_42) k) ?_
  show OGo p e below s _ _ (T32.setTop (mkF m 43 #[.val (.ref a1)] [.null, (.ref a1)]))
  obtain ⟨T33, hp33, X33, e33, Ww33, st33⟩ := putF X32 hx hZ hown (host := "") (Or.inl (hw _ (List.mem_of_getElem? (i := 33) rfl))) Via.refl e32 F_worse_a1 E_a1 (Or.inl (hw _ (List.mem_of_getElem? (i := 34) rfl))) (hw _ (List.mem_of_getElem? (i := 4) rfl)) (ty := (.object "com/example/kurslot/kurslot/book/PriceLevel")) (by decide) rfl rfl (g := (mkF m 43 #[.val (.ref a1)] [.null, (.ref a1)])) rfl rfl (hb hby d4_43)
  have Nf33 := Fr.snoc X33 Nf32 old_a1
  have Z0 := Nat.le_trans Z0 (Keep.of_wr Ww33).1
  have K0 := K0.wr Ww33 (Or.inl (List.mem_of_getElem? (i := 0) rfl))
  have E_a1 := E_a1.wr Ww33
  have F_better_a1 := F_better_a1.other Ww33 (Or.inr (slot_ne (Or.inl (hw _ (List.mem_of_getElem? (i := 32) rfl))) (Or.inl (hw _ (List.mem_of_getElem? (i := 34) rfl))) (by decide) (t := (.object "com/example/kurslot/kurslot/book/PriceLevel")) (t' := (.object "com/example/kurslot/kurslot/book/PriceLevel")) (by decide) (by decide)))
  have F_worse_a1 := F_worse_a1.same Ww33
  have E_a3 := E_a3.wr Ww33
  have F_better_a3 := F_better_a3.other Ww33 (Or.inl (Ne.symm ne_a1_a3))
  have F_worse_a3 := F_worse_a3.other Ww33 (Or.inl (Ne.symm ne_a1_a3))
  refine own_st st33 ?_
  show OGo p e below s _ _ (T33.setTop (mkF m 46 #[.val (.ref a1)] []))
  exact own_retV X33 hx hlk hret (hb hby d4_46) (by decide) (by decide) (⟨rfl, Nf33, (by rw [e33]; exact K0), (by rw [e33]; exact E_a1), (by rw [e33]; exact F_better_a1), (by rw [e33]; exact F_worse_a1), (by rw [e33]; exact E_a3), (by rw [e33]; exact F_better_a3), (by rw [e33]; exact F_worse_a3)⟩)
theorem d4_7 : decode prog_9_method_15_code 7 = .ok (.aload_n 0, 1) := by decide +kernel
theorem d4_8 : decode prog_9_method_15_code 8 = .ok (.getfield 40, 3) := by decide +kernel
theorem d4_11 : decode prog_9_method_15_code 11 = .ok (.aload_n 0, 1) := by decide +kernel
theorem d4_12 : decode prog_9_method_15_code 12 = .ok (.getfield 36, 3) := by decide +kernel
theorem d4_15 : decode prog_9_method_15_code 15 = .ok (.putfield 36, 3) := by decide +kernel
set_option maxRecDepth 65536 in
set_option maxHeartbeats 40000000 in
theorem rm4_10 (l : Launch) (Z : State) (a0 : Array Value) (hw : ∀ d ∈ tables_1, d.before a0 Z = true) (a1 : Addr) (a2 : Addr) (h0 : Heap) (n0 : Nat) (Z0 : n0 ≤ h0.size) (old_a1 : n0 ≤ a1) (old_a2 : n0 ≤ a2) (ne_a1_a2 : a1 ≠ a2) (E_a1 : Exa Z h0 a1 "com/example/kurslot/kurslot/book/PriceLevel") (F_better_a1 : Fld Z h0 a1 "com/example/kurslot/kurslot/book/PriceLevel" "better" "Lcom/example/kurslot/kurslot/book/PriceLevel;" (.ref a2)) (F_worse_a1 : Fld Z h0 a1 "com/example/kurslot/kurslot/book/PriceLevel" "worse" "Lcom/example/kurslot/kurslot/book/PriceLevel;" .null) (E_a2 : Exa Z h0 a2 "com/example/kurslot/kurslot/book/PriceLevel") (F_better_a2 : Fld Z h0 a2 "com/example/kurslot/kurslot/book/PriceLevel" "better" "Lcom/example/kurslot/kurslot/book/PriceLevel;" .null) (F_worse_a2 : Fld Z h0 a2 "com/example/kurslot/kurslot/book/PriceLevel" "worse" "Lcom/example/kurslot/kurslot/book/PriceLevel;" (.ref a1)) :
    OMet l Z (⟨"com/example/kurslot/kurslot/book/PriceLevel", "unlink", "()V"⟩ : MethodName) prog_9_method_15_code 1 none [] ({ frames := 0, cells := 0, slots := 0, locals := 0 } : Room) #[(.ref a1)] h0 (fun v h' L => v = none ∧ Fr n0 L ∧ Keep h0 h' [a1, a2] ∧ Exa Z h' a1 "com/example/kurslot/kurslot/book/PriceLevel" ∧ Fld Z h' a1 "com/example/kurslot/kurslot/book/PriceLevel" "better" "Lcom/example/kurslot/kurslot/book/PriceLevel;" .null ∧ Fld Z h' a1 "com/example/kurslot/kurslot/book/PriceLevel" "worse" "Lcom/example/kurslot/kurslot/book/PriceLevel;" .null ∧ Exa Z h' a2 "com/example/kurslot/kurslot/book/PriceLevel" ∧ Fld Z h' a2 "com/example/kurslot/kurslot/book/PriceLevel" "better" "Lcom/example/kurslot/kurslot/book/PriceLevel;" .null ∧ Fld Z h' a2 "com/example/kurslot/kurslot/book/PriceLevel" "worse" "Lcom/example/kurslot/kurslot/book/PriceLevel;" .null) := by
  refine own_body (plainFor_of_name pn_com_example_kurslot_kurslot_book_PriceLevel) (fun m => ef_4_R m a1) ?_
  intro p e s m below meth c T0 hx hby hml hown hnm hret hlk hZ X0 e0
  have hown : s.vm.findClass "com/example/kurslot/kurslot/book/PriceLevel" = some m.cls := hown
  have hml : c.maxLocals = 1 := hml
  have N0 := Fr.nil n0
  have K0 := Keep.refl h0 [a1, a2]
  show OGo p e below s _ _ (T0.setTop (mkF m 0 #[.val (.ref a1)] []))
  refine own_st (fun t k => XS.aloadN X0.here hx rfl (hb hby d4_0) rfl rfl k) ?_
  show OGo p e below s _ _ (T0.setTop (mkF m 1 #[.val (.ref a1)] [(.ref a1)]))
  obtain ⟨T34, X34, e34, st34⟩ := getF X0 hx hZ hown (host := "") (Or.inl (hw _ (List.mem_of_getElem? (i := 31) rfl))) Via.refl e0 F_better_a1 (g := (mkF m 1 #[.val (.ref a1)] [(.ref a1)])) rfl rfl (hb hby d4_1)
  refine own_st st34 ?_
  show OGo p e below s _ _ (T34.setTop (mkF m 4 #[.val (.ref a1)] [(.ref a2)]))
  refine own_st (fun t k => XS.ifnullNo X34.here hx rfl (hb hby d4_4) rfl k) ?_
  show OGo p e below s _ _ (T34.setTop (mkF m 7 #[.val (.ref a1)] []))
  refine own_st (fun t k => XS.aloadN X34.here hx rfl (hb hby d4_7) rfl rfl k) ?_
  show OGo p e below s _ _ (T34.setTop (mkF m 8 #[.val (.ref a1)] [(.ref a1)]))
  obtain ⟨T35, X35, e35, st35⟩ := getF X34 hx hZ hown (host := "") (Or.inl (hw _ (List.mem_of_getElem? (i := 31) rfl))) Via.refl e34 F_better_a1 (g := (mkF m 8 #[.val (.ref a1)] [(.ref a1)])) rfl rfl (hb hby d4_8)
  refine own_st st35 ?_
  show OGo p e below s _ _ (T35.setTop (mkF m 11 #[.val (.ref a1)] [(.ref a2)]))
  refine own_st (fun t k => XS.aloadN X35.here hx rfl (hb hby d4_11) rfl rfl k) ?_
  show OGo p e below s _ _ (T35.setTop (mkF m 12 #[.val (.ref a1)] [(.ref a1), (.ref a2)]))
  obtain ⟨T36, X36, e36, st36⟩ := getF X35 hx hZ hown (host := "") (Or.inl (hw _ (List.mem_of_getElem? (i := 33) rfl))) Via.refl e35 F_worse_a1 (g := (mkF m 12 #[.val (.ref a1)] [(.ref a1), (.ref a2)])) rfl rfl (hb hby d4_12)
  refine own_st st36 ?_
  show OGo p e below s _ _ (T36.setTop (mkF m 15 #[.val (.ref a1)] [.null, (.ref a2)]))
  obtain ⟨T37, hp37, X37, e37, Ww37, st37⟩ := putF X36 hx hZ hown (host := "") (Or.inl (hw _ (List.mem_of_getElem? (i := 33) rfl))) Via.refl e36 F_worse_a2 E_a2 (Or.inl (hw _ (List.mem_of_getElem? (i := 34) rfl))) (hw _ (List.mem_of_getElem? (i := 4) rfl)) (ty := (.object "com/example/kurslot/kurslot/book/PriceLevel")) (by decide) rfl rfl (g := (mkF m 15 #[.val (.ref a1)] [.null, (.ref a2)])) rfl rfl (hb hby d4_15)
  have Nf37 := Fr.snoc X37 N0 old_a2
  have Z0 := Nat.le_trans Z0 (Keep.of_wr Ww37).1
  have K0 := K0.wr Ww37 (Or.inl (List.mem_of_getElem? (i := 1) rfl))
  have E_a1 := E_a1.wr Ww37
  have F_better_a1 := F_better_a1.other Ww37 (Or.inl ne_a1_a2)
  have F_worse_a1 := F_worse_a1.other Ww37 (Or.inl ne_a1_a2)
  have E_a2 := E_a2.wr Ww37
  have F_better_a2 := F_better_a2.other Ww37 (Or.inr (slot_ne (Or.inl (hw _ (List.mem_of_getElem? (i := 32) rfl))) (Or.inl (hw _ (List.mem_of_getElem? (i := 34) rfl))) (by decide) (t := (.object "com/example/kurslot/kurslot/book/PriceLevel")) (t' := (.object "com/example/kurslot/kurslot/book/PriceLevel")) (by decide) (by decide)))
  have F_worse_a2 := F_worse_a2.same Ww37
  refine own_st st37 ?_
  show OGo p e below s _ _ (T37.setTop (mkF m 18 #[.val (.ref a1)] []))
  refine own_st (fun t k => XS.aloadN X37.here hx rfl (hb hby d4_18) rfl rfl k) ?_
  show OGo p e below s _ _ (T37.setTop (mkF m 19 #[.val (.ref a1)] [(.ref a1)]))
  obtain ⟨T38, X38, e38, st38⟩ := getF X37 hx hZ hown (host := "") (Or.inl (hw _ (List.mem_of_getElem? (i := 33) rfl))) Via.refl e37 F_worse_a1 (g := (mkF m 19 #[.val (.ref a1)] [(.ref a1)])) rfl rfl (hb hby d4_19)
  refine own_st st38 ?_
  show OGo p e below s _ _ (T38.setTop (mkF m 22 #[.val (.ref a1)] [.null]))
  refine own_st (fun t k => XS.ifnullYes X38.here hx rfl (pc0 := 22) (pc' := 36) rfl (hb hby d4_22) rfl (by decide) (by decide) k) ?_
  show OGo p e below s _ _ (T38.setTop (mkF m 36 #[.val (.ref a1)] []))
  refine own_st (fun t k => XS.aloadN X38.here hx rfl (hb hby d4_36) rfl rfl k) ?_
  show OGo p e below s _ _ (T38.setTop (mkF m 37 #[.val (.ref a1)] [(.ref a1)]))
  refine own_st (fun t k => XS.aconstNull X38.here hx rfl (hb hby d4_37) k) ?_
  show OGo p e below s _ _ (T38.setTop (mkF m 38 #[.val (.ref a1)] [.null, (.ref a1)]))
  obtain ⟨T39, hp39, X39, e39, Ww39, st39⟩ := putF X38 hx hZ hown (host := "") (Or.inl (hw _ (List.mem_of_getElem? (i := 31) rfl))) Via.refl e38 F_better_a1 E_a1 (Or.inl (hw _ (List.mem_of_getElem? (i := 32) rfl))) (hw _ (List.mem_of_getElem? (i := 4) rfl)) (ty := (.object "com/example/kurslot/kurslot/book/PriceLevel")) (by decide) rfl rfl (g := (mkF m 38 #[.val (.ref a1)] [.null, (.ref a1)])) rfl rfl (hb hby d4_38)
  have Nf39 := Fr.snoc X39 Nf37 old_a1
  have Z0 := Nat.le_trans Z0 (Keep.of_wr Ww39).1
  have K0 := K0.wr Ww39 (Or.inl (List.mem_of_getElem? (i := 0) rfl))
  have E_a1 := E_a1.wr Ww39
  have F_better_a1 := F_better_a1.same Ww39
  have F_worse_a1 := F_worse_a1.other Ww39 (Or.inr (slot_ne (Or.inl (hw _ (List.mem_of_getElem? (i := 34) rfl))) (Or.inl (hw _ (List.mem_of_getElem? (i := 32) rfl))) (by decide) (t := (.object "com/example/kurslot/kurslot/book/PriceLevel")) (t' := (.object "com/example/kurslot/kurslot/book/PriceLevel")) (by decide) (by decide)))
  have E_a2 := E_a2.wr Ww39
  have F_better_a2 := F_better_a2.other Ww39 (Or.inl (Ne.symm ne_a1_a2))
  have F_worse_a2 := F_worse_a2.other Ww39 (Or.inl (Ne.symm ne_a1_a2))
  refine own_st st39 ?_
  show OGo p e below s _ _ (T39.setTop (mkF m 41 #[.val (.ref a1)] []))
  refine own_st (fun t k => XS.aloadN X39.here hx rfl (hb hby d4_41) rfl rfl k) ?_
  show OGo p e below s _ _ (T39.setTop (mkF m 42 #[.val (.ref a1)] [(.ref a1)]))
  refine own_st (fun t k => XS.aconstNull X39.here hx rfl (hb hby d4_42) k) ?_
  show OGo p e below s _ _ (T39.setTop (mkF m 43 #[.val (.ref a1)] [.null, (.ref a1)]))
  obtain ⟨T40, hp40, X40, e40, Ww40, st40⟩ := putF X39 hx hZ hown (host := "") (Or.inl (hw _ (List.mem_of_getElem? (i := 33) rfl))) Via.refl e39 F_worse_a1 E_a1 (Or.inl (hw _ (List.mem_of_getElem? (i := 34) rfl))) (hw _ (List.mem_of_getElem? (i := 4) rfl)) (ty := (.object "com/example/kurslot/kurslot/book/PriceLevel")) (by decide) rfl rfl (g := (mkF m 43 #[.val (.ref a1)] [.null, (.ref a1)])) rfl rfl (hb hby d4_43)
  have Nf40 := Fr.snoc X40 Nf39 old_a1
  have Z0 := Nat.le_trans Z0 (Keep.of_wr Ww40).1
  have K0 := K0.wr Ww40 (Or.inl (List.mem_of_getElem? (i := 0) rfl))
  have E_a1 := E_a1.wr Ww40
  have F_better_a1 := F_better_a1.other Ww40 (Or.inr (slot_ne (Or.inl (hw _ (List.mem_of_getElem? (i := 32) rfl))) (Or.inl (hw _ (List.mem_of_getElem? (i := 34) rfl))) (by decide) (t := (.object "com/example/kurslot/kurslot/book/PriceLevel")) (t' := (.object "com/example/kurslot/kurslot/book/PriceLevel")) (by decide) (by decide)))
  have F_worse_a1 := F_worse_a1.same Ww40
  have E_a2 := E_a2.wr Ww40
  have F_better_a2 := F_better_a2.other Ww40 (Or.inl (Ne.symm ne_a1_a2))
  have F_worse_a2 := F_worse_a2.other Ww40 (Or.inl (Ne.symm ne_a1_a2))
  refine own_st st40 ?_
  show OGo p e below s _ _ (T40.setTop (mkF m 46 #[.val (.ref a1)] []))
  exact own_retV X40 hx hlk hret (hb hby d4_46) (by decide) (by decide) (⟨rfl, Nf40, (by rw [e40]; exact K0), (by rw [e40]; exact E_a1), (by rw [e40]; exact F_better_a1), (by rw [e40]; exact F_worse_a1), (by rw [e40]; exact E_a2), (by rw [e40]; exact F_better_a2), (by rw [e40]; exact F_worse_a2)⟩)

set_option maxRecDepth 65536 in
set_option maxHeartbeats 40000000 in
theorem rm4_11 (l : Launch) (Z : State) (a0 : Array Value) (hw : ∀ d ∈ tables_1, d.before a0 Z = true) (a1 : Addr) (a2 : Addr) (a3 : Addr) (v3 : Value) (h0 : Heap) (n0 : Nat) (Z0 : n0 ≤ h0.size) (old_a1 : n0 ≤ a1) (old_a2 : n0 ≤ a2) (old_a3 : n0 ≤ a3) (ne_a1_a2 : a1 ≠ a2) (ne_a1_a3 : a1 ≠ a3) (ne_a2_a3 : a2 ≠ a3) (E_a1 : Exa Z h0 a1 "com/example/kurslot/kurslot/book/PriceLevel") (F_better_a1 : Fld Z h0 a1 "com/example/kurslot/kurslot/book/PriceLevel" "better" "Lcom/example/kurslot/kurslot/book/PriceLevel;" (.ref a2)) (F_worse_a1 : Fld Z h0 a1 "com/example/kurslot/kurslot/book/PriceLevel" "worse" "Lcom/example/kurslot/kurslot/book/PriceLevel;" (.ref a3)) (E_a2 : Exa Z h0 a2 "com/example/kurslot/kurslot/book/PriceLevel") (F_better_a2 : Fld Z h0 a2 "com/example/kurslot/kurslot/book/PriceLevel" "better" "Lcom/example/kurslot/kurslot/book/PriceLevel;" .null) (F_worse_a2 : Fld Z h0 a2 "com/example/kurslot/kurslot/book/PriceLevel" "worse" "Lcom/example/kurslot/kurslot/book/PriceLevel;" (.ref a1)) (E_a3 : Exa Z h0 a3 "com/example/kurslot/kurslot/book/PriceLevel") (F_better_a3 : Fld Z h0 a3 "com/example/kurslot/kurslot/book/PriceLevel" "better" "Lcom/example/kurslot/kurslot/book/PriceLevel;" (.ref a1)) (F_worse_a3 : Fld Z h0 a3 "com/example/kurslot/kurslot/book/PriceLevel" "worse" "Lcom/example/kurslot/kurslot/book/PriceLevel;" v3) :
    OMet l Z (⟨"com/example/kurslot/kurslot/book/PriceLevel", "unlink", "()V"⟩ : MethodName) prog_9_method_15_code 1 none [] ({ frames := 0, cells := 0, slots := 0, locals := 0 } : Room) #[(.ref a1)] h0 (fun v h' L => v = none ∧ Fr n0 L ∧ Keep h0 h' [a1, a2, a3] ∧ Exa Z h' a1 "com/example/kurslot/kurslot/book/PriceLevel" ∧ Fld Z h' a1 "com/example/kurslot/kurslot/book/PriceLevel" "better" "Lcom/example/kurslot/kurslot/book/PriceLevel;" .null ∧ Fld Z h' a1 "com/example/kurslot/kurslot/book/PriceLevel" "worse" "Lcom/example/kurslot/kurslot/book/PriceLevel;" .null ∧ Exa Z h' a2 "com/example/kurslot/kurslot/book/PriceLevel" ∧ Fld Z h' a2 "com/example/kurslot/kurslot/book/PriceLevel" "better" "Lcom/example/kurslot/kurslot/book/PriceLevel;" .null ∧ Fld Z h' a2 "com/example/kurslot/kurslot/book/PriceLevel" "worse" "Lcom/example/kurslot/kurslot/book/PriceLevel;" (.ref a3) ∧ Exa Z h' a3 "com/example/kurslot/kurslot/book/PriceLevel" ∧ Fld Z h' a3 "com/example/kurslot/kurslot/book/PriceLevel" "better" "Lcom/example/kurslot/kurslot/book/PriceLevel;" (.ref a2) ∧ Fld Z h' a3 "com/example/kurslot/kurslot/book/PriceLevel" "worse" "Lcom/example/kurslot/kurslot/book/PriceLevel;" v3) := by
  refine own_body (plainFor_of_name pn_com_example_kurslot_kurslot_book_PriceLevel) (fun m => ef_4_R m a1) ?_
  intro p e s m below meth c T0 hx hby hml hown hnm hret hlk hZ X0 e0
  have hown : s.vm.findClass "com/example/kurslot/kurslot/book/PriceLevel" = some m.cls := hown
  have hml : c.maxLocals = 1 := hml
  have N0 := Fr.nil n0
  have K0 := Keep.refl h0 [a1, a2, a3]
  show OGo p e below s _ _ (T0.setTop (mkF m 0 #[.val (.ref a1)] []))
  refine own_st (fun t k => XS.aloadN X0.here hx rfl (hb hby d4_0) rfl rfl k) ?_
  show OGo p e below s _ _ (T0.setTop (mkF m 1 #[.val (.ref a1)] [(.ref a1)]))
  obtain ⟨T41, X41, e41, st41⟩ := getF X0 hx hZ hown (host := "") (Or.inl (hw _ (List.mem_of_getElem? (i := 31) rfl))) Via.refl e0 F_better_a1 (g := (mkF m 1 #[.val (.ref a1)] [(.ref a1)])) rfl rfl (hb hby d4_1)
  refine own_st st41 ?_
  show OGo p e below s _ _ (T41.setTop (mkF m 4 #[.val (.ref a1)] [(.ref a2)]))
  refine own_st (fun t k => XS.ifnullNo X41.here hx rfl (hb hby d4_4) rfl k) ?_
  show OGo p e below s _ _ (T41.setTop (mkF m 7 #[.val (.ref a1)] []))
  refine own_st (fun t k => XS.aloadN X41.here hx rfl (hb hby d4_7) rfl rfl k) ?_
  show OGo p e below s _ _ (T41.setTop (mkF m 8 #[.val (.ref a1)] [(.ref a1)]))
  obtain ⟨T42, X42, e42, st42⟩ := getF X41 hx hZ hown (host := "") (Or.inl (hw _ (List.mem_of_getElem? (i := 31) rfl))) Via.refl e41 F_better_a1 (g := (mkF m 8 #[.val (.ref a1)] [(.ref a1)])) rfl rfl (hb hby d4_8)
  refine own_st st42 ?_
  show OGo p e below s _ _ (T42.setTop (mkF m 11 #[.val (.ref a1)] [(.ref a2)]))
  refine own_st (fun t k => XS.aloadN X42.here hx rfl (hb hby d4_11) rfl rfl k) ?_
  show OGo p e below s _ _ (T42.setTop (mkF m 12 #[.val (.ref a1)] [(.ref a1), (.ref a2)]))
  obtain ⟨T43, X43, e43, st43⟩ := getF X42 hx hZ hown (host := "") (Or.inl (hw _ (List.mem_of_getElem? (i := 33) rfl))) Via.refl e42 F_worse_a1 (g := (mkF m 12 #[.val (.ref a1)] [(.ref a1), (.ref a2)])) rfl rfl (hb hby d4_12)
  refine own_st st43 ?_
  show OGo p e below s _ _ (T43.setTop (mkF m 15 #[.val (.ref a1)] [(.ref a3), (.ref a2)]))
  obtain ⟨T44, hp44, X44, e44, Ww44, st44⟩ := putF X43 hx hZ hown (host := "") (Or.inl (hw _ (List.mem_of_getElem? (i := 33) rfl))) Via.refl e43 F_worse_a2 E_a2 (Or.inl (hw _ (List.mem_of_getElem? (i := 34) rfl))) (hw _ (List.mem_of_getElem? (i := 4) rfl)) (ty := (.object "com/example/kurslot/kurslot/book/PriceLevel")) (by decide) rfl rfl (g := (mkF m 15 #[.val (.ref a1)] [(.ref a3), (.ref a2)])) rfl rfl (hb hby d4_15)
  have Nf44 := Fr.snoc X44 N0 old_a2
  have Z0 := Nat.le_trans Z0 (Keep.of_wr Ww44).1
  have K0 := K0.wr Ww44 (Or.inl (List.mem_of_getElem? (i := 1) rfl))
  have E_a1 := E_a1.wr Ww44
  have F_better_a1 := F_better_a1.other Ww44 (Or.inl ne_a1_a2)
  have F_worse_a1 := F_worse_a1.other Ww44 (Or.inl ne_a1_a2)
  have E_a2 := E_a2.wr Ww44
  have F_better_a2 := F_better_a2.other Ww44 (Or.inr (slot_ne (Or.inl (hw _ (List.mem_of_getElem? (i := 32) rfl))) (Or.inl (hw _ (List.mem_of_getElem? (i := 34) rfl))) (by decide) (t := (.object "com/example/kurslot/kurslot/book/PriceLevel")) (t' := (.object "com/example/kurslot/kurslot/book/PriceLevel")) (by decide) (by decide)))
  have F_worse_a2 := F_worse_a2.same Ww44
  have E_a3 := E_a3.wr Ww44
  have F_better_a3 := F_better_a3.other Ww44 (Or.inl (Ne.symm ne_a2_a3))
  have F_worse_a3 := F_worse_a3.other Ww44 (Or.inl (Ne.symm ne_a2_a3))
  refine own_st st44 ?_
  show OGo p e below s _ _ (T44.setTop (mkF m 18 #[.val (.ref a1)] []))
  refine own_st (fun t k => XS.aloadN X44.here hx rfl (hb hby d4_18) rfl rfl k) ?_
  show OGo p e below s _ _ (T44.setTop (mkF m 19 #[.val (.ref a1)] [(.ref a1)]))
  obtain ⟨T45, X45, e45, st45⟩ := getF X44 hx hZ hown (host := "") (Or.inl (hw _ (List.mem_of_getElem? (i := 33) rfl))) Via.refl e44 F_worse_a1 (g := (mkF m 19 #[.val (.ref a1)] [(.ref a1)])) rfl rfl (hb hby d4_19)
  refine own_st st45 ?_
  show OGo p e below s _ _ (T45.setTop (mkF m 22 #[.val (.ref a1)] [(.ref a3)]))
  refine own_st (fun t k => XS.ifnullNo X45.here hx rfl (hb hby d4_22) rfl k) ?_
  show OGo p e below s _ _ (T45.setTop (mkF m 25 #[.val (.ref a1)] []))
  refine own_st (fun t k => XS.aloadN X45.here hx rfl (hb hby d4_25) rfl rfl k) ?_
  show OGo p e below s _ _ (T45.setTop (mkF m 26 #[.val (.ref a1)] [(.ref a1)]))
  obtain ⟨T46, X46, e46, st46⟩ := getF X45 hx hZ hown (host := "") (Or.inl (hw _ (List.mem_of_getElem? (i := 33) rfl))) Via.refl e45 F_worse_a1 (g := (mkF m 26 #[.val (.ref a1)] [(.ref a1)])) rfl rfl (hb hby d4_26)
  refine own_st st46 ?_
  show OGo p e below s _ _ (T46.setTop (mkF m 29 #[.val (.ref a1)] [(.ref a3)]))
  refine own_st (fun t k => XS.aloadN X46.here hx rfl (hb hby d4_29) rfl rfl k) ?_
  show OGo p e below s _ _ (T46.setTop (mkF m 30 #[.val (.ref a1)] [(.ref a1), (.ref a3)]))
  obtain ⟨T47, X47, e47, st47⟩ := getF X46 hx hZ hown (host := "") (Or.inl (hw _ (List.mem_of_getElem? (i := 31) rfl))) Via.refl e46 F_better_a1 (g := (mkF m 30 #[.val (.ref a1)] [(.ref a1), (.ref a3)])) rfl rfl (hb hby d4_30)
  refine own_st st47 ?_
  show OGo p e below s _ _ (T47.setTop (mkF m 33 #[.val (.ref a1)] [(.ref a2), (.ref a3)]))
  obtain ⟨T48, hp48, X48, e48, Ww48, st48⟩ := putF X47 hx hZ hown (host := "") (Or.inl (hw _ (List.mem_of_getElem? (i := 31) rfl))) Via.refl e47 F_better_a3 E_a3 (Or.inl (hw _ (List.mem_of_getElem? (i := 32) rfl))) (hw _ (List.mem_of_getElem? (i := 4) rfl)) (ty := (.object "com/example/kurslot/kurslot/book/PriceLevel")) (by decide) rfl rfl (g := (mkF m 33 #[.val (.ref a1)] [(.ref a2), (.ref a3)])) rfl rfl (hb hby d4_33)
  have Nf48 := Fr.snoc X48 Nf44 old_a3
  have Z0 := Nat.le_trans Z0 (Keep.of_wr Ww48).1
  have K0 := K0.wr Ww48 (Or.inl (List.mem_of_getElem? (i := 2) rfl))
  have E_a1 := E_a1.wr Ww48
  have F_better_a1 := F_better_a1.other Ww48 (Or.inl ne_a1_a3)
  have F_worse_a1 := F_worse_a1.other Ww48 (Or.inl ne_a1_a3)
  have E_a2 := E_a2.wr Ww48
  have F_better_a2 := F_better_a2.other Ww48 (Or.inl ne_a2_a3)
  have F_worse_a2 := F_worse_a2.other Ww48 (Or.inl ne_a2_a3)
  have E_a3 := E_a3.wr Ww48
  have F_better_a3 := F_better_a3.same Ww48
  have F_worse_a3 := F_worse_a3.other Ww48 (Or.inr (slot_ne (Or.inl (hw _ (List.mem_of_getElem? (i := 34) rfl))) (Or.inl (hw _ (List.mem_of_getElem? (i := 32) rfl))) (by decide) (t := (.object "com/example/kurslot/kurslot/book/PriceLevel")) (t' := (.object "com/example/kurslot/kurslot/book/PriceLevel")) (by decide) (by decide)))
  refine own_st st48 ?_
  show OGo p e below s _ _ (T48.setTop (mkF m 36 #[.val (.ref a1)] []))
  refine own_st (fun t k => XS.aloadN X48.here hx rfl (hb hby d4_36) rfl rfl k) ?_
  show OGo p e below s _ _ (T48.setTop (mkF m 37 #[.val (.ref a1)] [(.ref a1)]))
  refine own_st (fun t k => XS.aconstNull X48.here hx rfl (hb hby d4_37) k) ?_
  show OGo p e below s _ _ (T48.setTop (mkF m 38 #[.val (.ref a1)] [.null, (.ref a1)]))
  obtain ⟨T49, hp49, X49, e49, Ww49, st49⟩ := putF X48 hx hZ hown (host := "") (Or.inl (hw _ (List.mem_of_getElem? (i := 31) rfl))) Via.refl e48 F_better_a1 E_a1 (Or.inl (hw _ (List.mem_of_getElem? (i := 32) rfl))) (hw _ (List.mem_of_getElem? (i := 4) rfl)) (ty := (.object "com/example/kurslot/kurslot/book/PriceLevel")) (by decide) rfl rfl (g := (mkF m 38 #[.val (.ref a1)] [.null, (.ref a1)])) rfl rfl (hb hby d4_38)
  have Nf49 := Fr.snoc X49 Nf48 old_a1
  have Z0 := Nat.le_trans Z0 (Keep.of_wr Ww49).1
  have K0 := K0.wr Ww49 (Or.inl (List.mem_of_getElem? (i := 0) rfl))
  have E_a1 := E_a1.wr Ww49
  have F_better_a1 := F_better_a1.same Ww49
  have F_worse_a1 := F_worse_a1.other Ww49 (Or.inr (slot_ne (Or.inl (hw _ (List.mem_of_getElem? (i := 34) rfl))) (Or.inl (hw _ (List.mem_of_getElem? (i := 32) rfl))) (by decide) (t := (.object "com/example/kurslot/kurslot/book/PriceLevel")) (t' := (.object "com/example/kurslot/kurslot/book/PriceLevel")) (by decide) (by decide)))
  have E_a2 := E_a2.wr Ww49
  have F_better_a2 := F_better_a2.other Ww49 (Or.inl (Ne.symm ne_a1_a2))
  have F_worse_a2 := F_worse_a2.other Ww49 (Or.inl (Ne.symm ne_a1_a2))
  have E_a3 := E_a3.wr Ww49
  have F_better_a3 := F_better_a3.other Ww49 (Or.inl (Ne.symm ne_a1_a3))
  have F_worse_a3 := F_worse_a3.other Ww49 (Or.inl (Ne.symm ne_a1_a3))
  refine own_st st49 ?_
  show OGo p e below s _ _ (T49.setTop (mkF m 41 #[.val (.ref a1)] []))
  refine own_st (fun t k => XS.aloadN X49.here hx rfl (hb hby d4_41) rfl rfl k) ?_
  show OGo p e below s _ _ (T49.setTop (mkF m 42 #[.val (.ref a1)] [(.ref a1)]))
  refine own_st (fun t k => XS.aconstNull X49.here hx rfl (hb hby d4_42) k) ?_
  show OGo p e below s _ _ (T49.setTop (mkF m 43 #[.val (.ref a1)] [.null, (.ref a1)]))
  obtain ⟨T50, hp50, X50, e50, Ww50, st50⟩ := putF X49 hx hZ hown (host := "") (Or.inl (hw _ (List.mem_of_getElem? (i := 33) rfl))) Via.refl e49 F_worse_a1 E_a1 (Or.inl (hw _ (List.mem_of_getElem? (i := 34) rfl))) (hw _ (List.mem_of_getElem? (i := 4) rfl)) (ty := (.object "com/example/kurslot/kurslot/book/PriceLevel")) (by decide) rfl rfl (g := (mkF m 43 #[.val (.ref a1)] [.null, (.ref a1)])) rfl rfl (hb hby d4_43)
  have Nf50 := Fr.snoc X50 Nf49 old_a1
  have Z0 := Nat.le_trans Z0 (Keep.of_wr Ww50).1
  have K0 := K0.wr Ww50 (Or.inl (List.mem_of_getElem? (i := 0) rfl))
  have E_a1 := E_a1.wr Ww50
  have F_better_a1 := F_better_a1.other Ww50 (Or.inr (slot_ne (Or.inl (hw _ (List.mem_of_getElem? (i := 32) rfl))) (Or.inl (hw _ (List.mem_of_getElem? (i := 34) rfl))) (by decide) (t := (.object "com/example/kurslot/kurslot/book/PriceLevel")) (t' := (.object "com/example/kurslot/kurslot/book/PriceLevel")) (by decide) (by decide)))
  have F_worse_a1 := F_worse_a1.same Ww50
  have E_a2 := E_a2.wr Ww50
  have F_better_a2 := F_better_a2.other Ww50 (Or.inl (Ne.symm ne_a1_a2))
  have F_worse_a2 := F_worse_a2.other Ww50 (Or.inl (Ne.symm ne_a1_a2))
  have E_a3 := E_a3.wr Ww50
  have F_better_a3 := F_better_a3.other Ww50 (Or.inl (Ne.symm ne_a1_a3))
  have F_worse_a3 := F_worse_a3.other Ww50 (Or.inl (Ne.symm ne_a1_a3))
  refine own_st st50 ?_
  show OGo p e below s _ _ (T50.setTop (mkF m 46 #[.val (.ref a1)] []))
  exact own_retV X50 hx hlk hret (hb hby d4_46) (by decide) (by decide) (⟨rfl, Nf50, (by rw [e50]; exact K0), (by rw [e50]; exact E_a1), (by rw [e50]; exact F_better_a1), (by rw [e50]; exact F_worse_a1), (by rw [e50]; exact E_a2), (by rw [e50]; exact F_better_a2), (by rw [e50]; exact F_worse_a2), (by rw [e50]; exact E_a3), (by rw [e50]; exact F_better_a3), (by rw [e50]; exact F_worse_a3)⟩)
theorem d5_0 : decode prog_9_method_13_code 0 = .ok (.aload_n 0, 1) := by decide +kernel
theorem d5_1 : decode prog_9_method_13_code 1 = .ok (.getfield 36, 3) := by decide +kernel
theorem d5_4 : decode prog_9_method_13_code 4 = .ok (.areturn, 1) := by decide +kernel
theorem ef_5_R (m : MethodId) (x0 : Addr) : entryFrame m #[(.ref x0)] 1 = mkF m 0 #[.val (.ref x0)] [] := by first | (simp [entryFrame, mkF, argsToLocals, Value.category]; done) | rfl
set_option maxRecDepth 65536 in
set_option maxHeartbeats 40000000 in
theorem rm5_0 (l : Launch) (Z : State) (a0 : Array Value) (hw : ∀ d ∈ tables_1, d.before a0 Z = true) (a1 : Addr) (h0 : Heap) (F_worse_a1 : Fld Z h0 a1 "com/example/kurslot/kurslot/book/PriceLevel" "worse" "Lcom/example/kurslot/kurslot/book/PriceLevel;" .null) :
    OPure l Z (⟨"com/example/kurslot/kurslot/book/PriceLevel", "worse", "()Lcom/example/kurslot/kurslot/book/PriceLevel;"⟩ : MethodName) prog_9_method_13_code 1 (some (.object "com/example/kurslot/kurslot/book/PriceLevel")) [] ({ frames := 0, cells := 0, slots := 0, locals := 0 } : Room) #[(.ref a1)] h0 (some .null) := by
  refine own_body (plainFor_of_name pn_com_example_kurslot_kurslot_book_PriceLevel) (fun m => ef_5_R m a1) ?_
  intro p e s m below meth c T0 hx hby hml hown hnm hret hlk hZ X0 e0
  have hown : s.vm.findClass "com/example/kurslot/kurslot/book/PriceLevel" = some m.cls := hown
  have hml : c.maxLocals = 1 := hml
  show OGo p e below s _ _ (T0.setTop (mkF m 0 #[.val (.ref a1)] []))
  refine own_st (fun t k => XS.aloadN X0.here hx rfl (hb hby d5_0) rfl rfl k) ?_
  show OGo p e below s _ _ (T0.setTop (mkF m 1 #[.val (.ref a1)] [(.ref a1)]))
  obtain ⟨T51, X51, e51, st51⟩ := getF X0 hx hZ hown (host := "") (Or.inl (hw _ (List.mem_of_getElem? (i := 33) rfl))) Via.refl e0 F_worse_a1 (g := (mkF m 1 #[.val (.ref a1)] [(.ref a1)])) rfl rfl (hb hby d5_1)
  refine own_st st51 ?_
  show OGo p e below s _ _ (T51.setTop (mkF m 4 #[.val (.ref a1)] [.null]))
  exact own_retA X51 hx hlk hret rfl rfl (hb hby d5_4) (by decide) (by decide) (⟨rfl, rfl, e51⟩)

set_option maxRecDepth 65536 in
set_option maxHeartbeats 40000000 in
theorem rm5_1 (l : Launch) (Z : State) (a0 : Array Value) (hw : ∀ d ∈ tables_1, d.before a0 Z = true) (a1 : Addr) (a2 : Addr) (h0 : Heap) (F_worse_a1 : Fld Z h0 a1 "com/example/kurslot/kurslot/book/PriceLevel" "worse" "Lcom/example/kurslot/kurslot/book/PriceLevel;" (.ref a2)) :
    OPure l Z (⟨"com/example/kurslot/kurslot/book/PriceLevel", "worse", "()Lcom/example/kurslot/kurslot/book/PriceLevel;"⟩ : MethodName) prog_9_method_13_code 1 (some (.object "com/example/kurslot/kurslot/book/PriceLevel")) [] ({ frames := 0, cells := 0, slots := 0, locals := 0 } : Room) #[(.ref a1)] h0 (some (.ref a2)) := by
  refine own_body (plainFor_of_name pn_com_example_kurslot_kurslot_book_PriceLevel) (fun m => ef_5_R m a1) ?_
  intro p e s m below meth c T0 hx hby hml hown hnm hret hlk hZ X0 e0
  have hown : s.vm.findClass "com/example/kurslot/kurslot/book/PriceLevel" = some m.cls := hown
  have hml : c.maxLocals = 1 := hml
  show OGo p e below s _ _ (T0.setTop (mkF m 0 #[.val (.ref a1)] []))
  refine own_st (fun t k => XS.aloadN X0.here hx rfl (hb hby d5_0) rfl rfl k) ?_
  show OGo p e below s _ _ (T0.setTop (mkF m 1 #[.val (.ref a1)] [(.ref a1)]))
  obtain ⟨T52, X52, e52, st52⟩ := getF X0 hx hZ hown (host := "") (Or.inl (hw _ (List.mem_of_getElem? (i := 33) rfl))) Via.refl e0 F_worse_a1 (g := (mkF m 1 #[.val (.ref a1)] [(.ref a1)])) rfl rfl (hb hby d5_1)
  refine own_st st52 ?_
  show OGo p e below s _ _ (T52.setTop (mkF m 4 #[.val (.ref a1)] [(.ref a2)]))
  exact own_retA X52 hx hlk hret rfl rfl (hb hby d5_4) (by decide) (by decide) (⟨rfl, rfl, e52⟩)
theorem pn_com_example_kurslot_kurslot_book_PriceLevelUnlinkPinLaw : plainName "com/example/kurslot/kurslot/book/PriceLevelUnlinkPinLaw" = true := by first | (simp [plainName, overriddenIn]; done) | decide +kernel
theorem ef_0_I (m : MethodId) (x0 : Int32) : entryFrame m #[(.int x0)] maxLocals = mkF m 0 #[.val (.int x0), .unset, .unset, .unset, .unset, .unset, .unset, .unset, .unset, .unset, .unset] [] := by first | (simp [entryFrame, mkF, argsToLocals, Value.category, maxLocals]; done) | rfl
theorem pd_0 : parseMethodDescriptor "(Lcom/example/kurslot/kurslot/book/OrderBook;Lcom/example/kurslot/kurslot/book/Side;JI)V" = some ⟨[(.object "com/example/kurslot/kurslot/book/OrderBook"), (.object "com/example/kurslot/kurslot/book/Side"), .long, .int], none⟩ := by decide +kernel
theorem pd_1 : parseMethodDescriptor "(Lcom/example/kurslot/kurslot/book/PriceLevel;Lcom/example/kurslot/kurslot/book/PriceLevel;)V" = some ⟨[(.object "com/example/kurslot/kurslot/book/PriceLevel"), (.object "com/example/kurslot/kurslot/book/PriceLevel")], none⟩ := by decide +kernel
theorem pd_2 : parseMethodDescriptor "()V" = some ⟨[], none⟩ := by decide +kernel
theorem pd_3 : parseMethodDescriptor "()Lcom/example/kurslot/kurslot/book/PriceLevel;" = some ⟨[], some (.object "com/example/kurslot/kurslot/book/PriceLevel")⟩ := by decide +kernel
set_option maxRecDepth 65536 in
set_option maxHeartbeats 40000000 in
theorem rm0 (l : Launch) (Z : State) (a0 : Array Value) (hw : ∀ d ∈ tables_1, d.before a0 Z = true) (ws : List Jvm.Cond) (q1 : Int32) (buy sell : Addr) (h0 : Heap) (n0 : Nat) (Z0 : n0 ≤ h0.size) (S_BUY : Sta Z h0 "com/example/kurslot/kurslot/book/Side" "BUY" "Lcom/example/kurslot/kurslot/book/Side;" (.ref buy)) (S_SELL : Sta Z h0 "com/example/kurslot/kurslot/book/Side" "SELL" "Lcom/example/kurslot/kurslot/book/Side;" (.ref sell)) :
    OMet l Z x code maxLocals ret ws room_1 #[(.int q1)] h0 (OLawQ n0) := by
  refine own_body (plainFor_of_name pn_com_example_kurslot_kurslot_book_PriceLevelUnlinkPinLaw) (fun m => ef_0_I m q1) ?_
  intro p e s m below meth c T0 hx hby hml hown hnm hret hlk hZ X0 e0
  have hown : s.vm.findClass "com/example/kurslot/kurslot/book/PriceLevelUnlinkPinLaw" = some m.cls := hown
  have hml : c.maxLocals = 11 := hml
  show OGo p e below s _ _ (T0.setTop (mkF m 0 #[.val (.int q1), .unset, .unset, .unset, .unset, .unset, .unset, .unset, .unset, .unset, .unset] []))
  have N0 := Fr.nil n0
  have J00 : ∀ (T1 : State) (sd : Addr), Stand p l e room_1 s m #[(.int q1)] below meth c T1 [] 0 0 → T1.heap = h0 → OGo p e below s room_1 (OLawQ n0) (T1.setTop (mkF m 39 #[.val (.int q1), .val (.int (0 : Int32)), .val (.int (0 : Int32)), .unset, .unset, .unset, .unset, .unset, .unset, .unset, .unset] [(.ref sd)])) := by
    intro T1 sd X1 e1
    show OGo p e below s room_1 (OLawQ n0) (T1.setTop (mkF m 39 #[.val (.int q1), .val (.int (0 : Int32)), .val (.int (0 : Int32)), .unset, .unset, .unset, .unset, .unset, .unset, .unset, .unset] [(.ref sd)]))
    refine own_st (fun t k => XS.astoreN X1.here hx rfl (hb hby at_39) rfl rfl (l' := #[.val (.int q1), .val (.int (0 : Int32)), .val (.int (0 : Int32)), .val (.ref sd), .unset, .unset, .unset, .unset, .unset, .unset, .unset]) rfl k) ?_
    show OGo p e below s room_1 (OLawQ n0) (T1.setTop (mkF m 40 #[.val (.int q1), .val (.int (0 : Int32)), .val (.int (0 : Int32)), .val (.ref sd), .unset, .unset, .unset, .unset, .unset, .unset, .unset] []))
    obtain ⟨T53, hp53, X53, e53, Ex53, Aa53, Dd53, -, st53⟩ := newO X1 hx hZ hown (hw _ (List.mem_of_getElem? (i := 3) rfl)) (hw _ (List.mem_of_getElem? (i := 4) rfl)) (hw _ (List.mem_of_getElem? (i := 5) rfl)) e1 (g := (mkF m 40 #[.val (.int q1), .val (.int (0 : Int32)), .val (.int (0 : Int32)), .val (.ref sd), .unset, .unset, .unset, .unset, .unset, .unset, .unset] [])) rfl (hb hby at_40) (by decide) (by decide)
    obtain ⟨la, gs53⟩ : ∃ z, z = h0.size := ⟨_, rfl⟩
    rw [← gs53] at Aa53 Dd53 st53
    have old_la : n0 ≤ la := Nat.le_trans Z0 (Nat.le_of_eq gs53.symm)
    have Z0 := Nat.le_trans Z0 Ex53.1
    have E_la := Aa53
    have F_first_la : Fld Z hp53 la "com/example/kurslot/kurslot/book/PriceLevel" "first" "I" (.int (0 : Int32)) := Dd53 (Or.inl (hw _ (List.mem_of_getElem? (i := 14) rfl))) (ty := .int) (by decide)
    have F_last_la : Fld Z hp53 la "com/example/kurslot/kurslot/book/PriceLevel" "last" "I" (.int (0 : Int32)) := Dd53 (Or.inl (hw _ (List.mem_of_getElem? (i := 16) rfl))) (ty := .int) (by decide)
    have F_book_la : Fld Z hp53 la "com/example/kurslot/kurslot/book/PriceLevel" "book" "Lcom/example/kurslot/kurslot/book/OrderBook;" .null := Dd53 (Or.inr (hw _ (List.mem_of_getElem? (i := 18) rfl))) (ty := (.object "com/example/kurslot/kurslot/book/OrderBook")) (by decide)
    have F_side_la : Fld Z hp53 la "com/example/kurslot/kurslot/book/PriceLevel" "side" "Lcom/example/kurslot/kurslot/book/Side;" .null := Dd53 (Or.inr (hw _ (List.mem_of_getElem? (i := 20) rfl))) (ty := (.object "com/example/kurslot/kurslot/book/Side")) (by decide)
    have F_price_la : Fld Z hp53 la "com/example/kurslot/kurslot/book/PriceLevel" "price" "J" (.long (0 : Int64)) := Dd53 (Or.inr (hw _ (List.mem_of_getElem? (i := 22) rfl))) (ty := .long) (by decide)
    have F_number_la : Fld Z hp53 la "com/example/kurslot/kurslot/book/PriceLevel" "number" "I" (.int (0 : Int32)) := Dd53 (Or.inr (hw _ (List.mem_of_getElem? (i := 24) rfl))) (ty := .int) (by decide)
    have F_better_la : Fld Z hp53 la "com/example/kurslot/kurslot/book/PriceLevel" "better" "Lcom/example/kurslot/kurslot/book/PriceLevel;" .null := Dd53 (Or.inl (hw _ (List.mem_of_getElem? (i := 32) rfl))) (ty := (.object "com/example/kurslot/kurslot/book/PriceLevel")) (by decide)
    have F_worse_la : Fld Z hp53 la "com/example/kurslot/kurslot/book/PriceLevel" "worse" "Lcom/example/kurslot/kurslot/book/PriceLevel;" .null := Dd53 (Or.inl (hw _ (List.mem_of_getElem? (i := 34) rfl))) (ty := (.object "com/example/kurslot/kurslot/book/PriceLevel")) (by decide)
    refine own_st st53 ?_
    show OGo p e below s room_1 (OLawQ n0) (T53.setTop (mkF m 43 #[.val (.int q1), .val (.int (0 : Int32)), .val (.int (0 : Int32)), .val (.ref sd), .unset, .unset, .unset, .unset, .unset, .unset, .unset] [(.ref la)]))
    refine own_st (fun t k => XS.dup X53.here hx rfl (hb hby at_43) rfl rfl k) ?_
    show OGo p e below s room_1 (OLawQ n0) (T53.setTop (mkF m 44 #[.val (.int q1), .val (.int (0 : Int32)), .val (.int (0 : Int32)), .val (.ref sd), .unset, .unset, .unset, .unset, .unset, .unset, .unset] [(.ref la), (.ref la)]))
    refine own_st (fun t k => XS.aconstNull X53.here hx rfl (hb hby at_44) k) ?_
    show OGo p e below s room_1 (OLawQ n0) (T53.setTop (mkF m 45 #[.val (.int q1), .val (.int (0 : Int32)), .val (.int (0 : Int32)), .val (.ref sd), .unset, .unset, .unset, .unset, .unset, .unset, .unset] [.null, (.ref la), (.ref la)]))
    refine own_st (fun t k => XS.aloadN X53.here hx rfl (hb hby at_45) rfl rfl k) ?_
    show OGo p e below s room_1 (OLawQ n0) (T53.setTop (mkF m 46 #[.val (.int q1), .val (.int (0 : Int32)), .val (.int (0 : Int32)), .val (.ref sd), .unset, .unset, .unset, .unset, .unset, .unset, .unset] [(.ref sd), .null, (.ref la), (.ref la)]))
    refine own_st (X53.ldc2Long hx hown (mvT hZ (hw _ (List.mem_of_getElem? (i := 6) rfl))) (g := (mkF m 46 #[.val (.int q1), .val (.int (0 : Int32)), .val (.int (0 : Int32)), .val (.ref sd), .unset, .unset, .unset, .unset, .unset, .unset, .unset] [(.ref sd), .null, (.ref la), (.ref la)])) rfl (hb hby at_46)) ?_
    show OGo p e below s room_1 (OLawQ n0) (T53.setTop (mkF m 49 #[.val (.int q1), .val (.int (0 : Int32)), .val (.int (0 : Int32)), .val (.ref sd), .unset, .unset, .unset, .unset, .unset, .unset, .unset] [(.long (3 : Int64)), (.ref sd), .null, (.ref la), (.ref la)]))
    refine own_st (fun t k => XS.iconst X53.here hx rfl (hb hby at_49) k) ?_
    show OGo p e below s room_1 (OLawQ n0) (T53.setTop (mkF m 50 #[.val (.int q1), .val (.int (0 : Int32)), .val (.int (0 : Int32)), .val (.ref sd), .unset, .unset, .unset, .unset, .unset, .unset, .unset] [(.int (0 : Int32)), (.long (3 : Int64)), (.ref sd), .null, (.ref la), (.ref la)]))
    obtain ⟨_, T54, Lc54, X54, hQ54, st54⟩ := own_callI X53 hx hZ (y := (⟨"com/example/kurslot/kurslot/book/PriceLevel", "<init>", "(Lcom/example/kurslot/kurslot/book/OrderBook;Lcom/example/kurslot/kurslot/book/Side;JI)V"⟩ : MethodName)) (W := 1) rfl hown (hw _ (List.mem_of_getElem? (i := 7) rfl)) (hw _ (List.mem_of_getElem? (i := 8) rfl)) (hw _ (List.mem_of_getElem? (i := 9) rfl)) (hw _ (List.mem_of_getElem? (i := 5) rfl)) (by decide) (rm1 l Z a0 hw la sd (3 : Int64) (0 : Int32) hp53 n0 Z0 old_la E_la F_better_la F_worse_la F_first_la F_last_la F_book_la F_side_la F_price_la F_number_la) (by decide) (by decide) (a := la) (g := (mkF m 50 #[.val (.int q1), .val (.int (0 : Int32)), .val (.int (0 : Int32)), .val (.ref sd), .unset, .unset, .unset, .unset, .unset, .unset, .unset] [(.int (0 : Int32)), (.long (3 : Int64)), (.ref sd), .null, (.ref la), (.ref la)])) rfl (by rw [hml]; rfl) (argsL := [.null, (.ref sd), (.long (3 : Int64)), (.int (0 : Int32))]) (rest := [(.ref la)]) (lenOf pd_0 rfl) rfl (by show 2 * 0 + _ ≤ _; exact Nat.le_of_eq rfl) (hb hby at_50) rfl e53 (by decide) (by decide)
    obtain ⟨rfl, Nq54, Kq54, q54_0, q54_1, q54_2⟩ := hQ54
    have Z0 := Nat.le_trans Z0 Kq54.1
    have Nr54 := Fr.app N0 Nq54
    have E_la := q54_0
    have F_better_la := q54_1
    have F_worse_la := q54_2
    refine own_st st54 ?_
    show OGo p e below s room_1 (OLawQ n0) (T54.setTop (mkF m 53 #[.val (.int q1), .val (.int (0 : Int32)), .val (.int (0 : Int32)), .val (.ref sd), .unset, .unset, .unset, .unset, .unset, .unset, .unset] [(.ref la)]))
    refine own_st (fun t k => XS.astore X54.here hx rfl (hb hby at_53) rfl rfl (l' := #[.val (.int q1), .val (.int (0 : Int32)), .val (.int (0 : Int32)), .val (.ref sd), .val (.ref la), .unset, .unset, .unset, .unset, .unset, .unset]) rfl k) ?_
    show OGo p e below s room_1 (OLawQ n0) (T54.setTop (mkF m 55 #[.val (.int q1), .val (.int (0 : Int32)), .val (.int (0 : Int32)), .val (.ref sd), .val (.ref la), .unset, .unset, .unset, .unset, .unset, .unset] []))
    obtain ⟨T55, hp55, X55, e55, Ex55, Aa55, Dd55, -, st55⟩ := newO X54 hx hZ hown (hw _ (List.mem_of_getElem? (i := 3) rfl)) (hw _ (List.mem_of_getElem? (i := 4) rfl)) (hw _ (List.mem_of_getElem? (i := 5) rfl)) rfl (g := (mkF m 55 #[.val (.int q1), .val (.int (0 : Int32)), .val (.int (0 : Int32)), .val (.ref sd), .val (.ref la), .unset, .unset, .unset, .unset, .unset, .unset] [])) rfl (hb hby at_55) (by decide) (by decide)
    obtain ⟨lb, gs55⟩ : ∃ z, z = T54.heap.size := ⟨_, rfl⟩
    rw [← gs55] at Aa55 Dd55 st55
    have ne_la_lb : la ≠ lb := Nat.ne_of_lt (Nat.lt_of_lt_of_le E_la.lt (Nat.le_of_eq gs55.symm))
    have old_lb : n0 ≤ lb := Nat.le_trans Z0 (Nat.le_of_eq gs55.symm)
    have Z0 := Nat.le_trans Z0 Ex55.1
    have E_la := E_la.ext Ex55
    have F_better_la := F_better_la.ext Ex55
    have F_worse_la := F_worse_la.ext Ex55
    have E_lb := Aa55
    have F_first_lb : Fld Z hp55 lb "com/example/kurslot/kurslot/book/PriceLevel" "first" "I" (.int (0 : Int32)) := Dd55 (Or.inl (hw _ (List.mem_of_getElem? (i := 14) rfl))) (ty := .int) (by decide)
    have F_last_lb : Fld Z hp55 lb "com/example/kurslot/kurslot/book/PriceLevel" "last" "I" (.int (0 : Int32)) := Dd55 (Or.inl (hw _ (List.mem_of_getElem? (i := 16) rfl))) (ty := .int) (by decide)
    have F_book_lb : Fld Z hp55 lb "com/example/kurslot/kurslot/book/PriceLevel" "book" "Lcom/example/kurslot/kurslot/book/OrderBook;" .null := Dd55 (Or.inr (hw _ (List.mem_of_getElem? (i := 18) rfl))) (ty := (.object "com/example/kurslot/kurslot/book/OrderBook")) (by decide)
    have F_side_lb : Fld Z hp55 lb "com/example/kurslot/kurslot/book/PriceLevel" "side" "Lcom/example/kurslot/kurslot/book/Side;" .null := Dd55 (Or.inr (hw _ (List.mem_of_getElem? (i := 20) rfl))) (ty := (.object "com/example/kurslot/kurslot/book/Side")) (by decide)
    have F_price_lb : Fld Z hp55 lb "com/example/kurslot/kurslot/book/PriceLevel" "price" "J" (.long (0 : Int64)) := Dd55 (Or.inr (hw _ (List.mem_of_getElem? (i := 22) rfl))) (ty := .long) (by decide)
    have F_number_lb : Fld Z hp55 lb "com/example/kurslot/kurslot/book/PriceLevel" "number" "I" (.int (0 : Int32)) := Dd55 (Or.inr (hw _ (List.mem_of_getElem? (i := 24) rfl))) (ty := .int) (by decide)
    have F_better_lb : Fld Z hp55 lb "com/example/kurslot/kurslot/book/PriceLevel" "better" "Lcom/example/kurslot/kurslot/book/PriceLevel;" .null := Dd55 (Or.inl (hw _ (List.mem_of_getElem? (i := 32) rfl))) (ty := (.object "com/example/kurslot/kurslot/book/PriceLevel")) (by decide)
    have F_worse_lb : Fld Z hp55 lb "com/example/kurslot/kurslot/book/PriceLevel" "worse" "Lcom/example/kurslot/kurslot/book/PriceLevel;" .null := Dd55 (Or.inl (hw _ (List.mem_of_getElem? (i := 34) rfl))) (ty := (.object "com/example/kurslot/kurslot/book/PriceLevel")) (by decide)
    refine own_st st55 ?_
    show OGo p e below s room_1 (OLawQ n0) (T55.setTop (mkF m 58 #[.val (.int q1), .val (.int (0 : Int32)), .val (.int (0 : Int32)), .val (.ref sd), .val (.ref la), .unset, .unset, .unset, .unset, .unset, .unset] [(.ref lb)]))
    refine own_st (fun t k => XS.dup X55.here hx rfl (hb hby at_58) rfl rfl k) ?_
    show OGo p e below s room_1 (OLawQ n0) (T55.setTop (mkF m 59 #[.val (.int q1), .val (.int (0 : Int32)), .val (.int (0 : Int32)), .val (.ref sd), .val (.ref la), .unset, .unset, .unset, .unset, .unset, .unset] [(.ref lb), (.ref lb)]))
    refine own_st (fun t k => XS.aconstNull X55.here hx rfl (hb hby at_59) k) ?_
    show OGo p e below s room_1 (OLawQ n0) (T55.setTop (mkF m 60 #[.val (.int q1), .val (.int (0 : Int32)), .val (.int (0 : Int32)), .val (.ref sd), .val (.ref la), .unset, .unset, .unset, .unset, .unset, .unset] [.null, (.ref lb), (.ref lb)]))
    refine own_st (fun t k => XS.aloadN X55.here hx rfl (hb hby at_60) rfl rfl k) ?_
    show OGo p e below s room_1 (OLawQ n0) (T55.setTop (mkF m 61 #[.val (.int q1), .val (.int (0 : Int32)), .val (.int (0 : Int32)), .val (.ref sd), .val (.ref la), .unset, .unset, .unset, .unset, .unset, .unset] [(.ref sd), .null, (.ref lb), (.ref lb)]))
    refine own_st (X55.ldc2Long hx hown (mvT hZ (hw _ (List.mem_of_getElem? (i := 25) rfl))) (g := (mkF m 61 #[.val (.int q1), .val (.int (0 : Int32)), .val (.int (0 : Int32)), .val (.ref sd), .val (.ref la), .unset, .unset, .unset, .unset, .unset, .unset] [(.ref sd), .null, (.ref lb), (.ref lb)])) rfl (hb hby at_61)) ?_
    show OGo p e below s room_1 (OLawQ n0) (T55.setTop (mkF m 64 #[.val (.int q1), .val (.int (0 : Int32)), .val (.int (0 : Int32)), .val (.ref sd), .val (.ref la), .unset, .unset, .unset, .unset, .unset, .unset] [(.long (2 : Int64)), (.ref sd), .null, (.ref lb), (.ref lb)]))
    refine own_st (fun t k => XS.iconst X55.here hx rfl (hb hby at_64) k) ?_
    show OGo p e below s room_1 (OLawQ n0) (T55.setTop (mkF m 65 #[.val (.int q1), .val (.int (0 : Int32)), .val (.int (0 : Int32)), .val (.ref sd), .val (.ref la), .unset, .unset, .unset, .unset, .unset, .unset] [(.int (1 : Int32)), (.long (2 : Int64)), (.ref sd), .null, (.ref lb), (.ref lb)]))
    obtain ⟨_, T56, Lc56, X56, hQ56, st56⟩ := own_callI X55 hx hZ (y := (⟨"com/example/kurslot/kurslot/book/PriceLevel", "<init>", "(Lcom/example/kurslot/kurslot/book/OrderBook;Lcom/example/kurslot/kurslot/book/Side;JI)V"⟩ : MethodName)) (W := 1) rfl hown (hw _ (List.mem_of_getElem? (i := 7) rfl)) (hw _ (List.mem_of_getElem? (i := 8) rfl)) (hw _ (List.mem_of_getElem? (i := 9) rfl)) (hw _ (List.mem_of_getElem? (i := 5) rfl)) (by decide) (rm1 l Z a0 hw lb sd (2 : Int64) (1 : Int32) hp55 n0 Z0 old_lb E_lb F_better_lb F_worse_lb F_first_lb F_last_lb F_book_lb F_side_lb F_price_lb F_number_lb) (by decide) (by decide) (a := lb) (g := (mkF m 65 #[.val (.int q1), .val (.int (0 : Int32)), .val (.int (0 : Int32)), .val (.ref sd), .val (.ref la), .unset, .unset, .unset, .unset, .unset, .unset] [(.int (1 : Int32)), (.long (2 : Int64)), (.ref sd), .null, (.ref lb), (.ref lb)])) rfl (by rw [hml]; rfl) (argsL := [.null, (.ref sd), (.long (2 : Int64)), (.int (1 : Int32))]) (rest := [(.ref lb)]) (lenOf pd_0 rfl) rfl (by show 2 * 0 + _ ≤ _; exact Nat.le_of_eq rfl) (hb hby at_65) rfl e55 (by decide) (by decide)
    obtain ⟨rfl, Nq56, Kq56, q56_0, q56_1, q56_2⟩ := hQ56
    have Z0 := Nat.le_trans Z0 Kq56.1
    have E_la := E_la.keep Kq56
    have F_better_la := F_better_la.keep Kq56 (ninS ne_la_lb nin0)
    have F_worse_la := F_worse_la.keep Kq56 (ninS ne_la_lb nin0)
    have Nr56 := Fr.app Nr54 Nq56
    have E_lb := q56_0
    have F_better_lb := q56_1
    have F_worse_lb := q56_2
    refine own_st st56 ?_
    show OGo p e below s room_1 (OLawQ n0) (T56.setTop (mkF m 68 #[.val (.int q1), .val (.int (0 : Int32)), .val (.int (0 : Int32)), .val (.ref sd), .val (.ref la), .unset, .unset, .unset, .unset, .unset, .unset] [(.ref lb)]))
    refine own_st (fun t k => XS.astore X56.here hx rfl (hb hby at_68) rfl rfl (l' := #[.val (.int q1), .val (.int (0 : Int32)), .val (.int (0 : Int32)), .val (.ref sd), .val (.ref la), .val (.ref lb), .unset, .unset, .unset, .unset, .unset]) rfl k) ?_
    show OGo p e below s room_1 (OLawQ n0) (T56.setTop (mkF m 70 #[.val (.int q1), .val (.int (0 : Int32)), .val (.int (0 : Int32)), .val (.ref sd), .val (.ref la), .val (.ref lb), .unset, .unset, .unset, .unset, .unset] []))
    obtain ⟨T57, hp57, X57, e57, Ex57, Aa57, Dd57, -, st57⟩ := newO X56 hx hZ hown (hw _ (List.mem_of_getElem? (i := 3) rfl)) (hw _ (List.mem_of_getElem? (i := 4) rfl)) (hw _ (List.mem_of_getElem? (i := 5) rfl)) rfl (g := (mkF m 70 #[.val (.int q1), .val (.int (0 : Int32)), .val (.int (0 : Int32)), .val (.ref sd), .val (.ref la), .val (.ref lb), .unset, .unset, .unset, .unset, .unset] [])) rfl (hb hby at_70) (by decide) (by decide)
    obtain ⟨lc, gs57⟩ : ∃ z, z = T56.heap.size := ⟨_, rfl⟩
    rw [← gs57] at Aa57 Dd57 st57
    have ne_la_lc : la ≠ lc := Nat.ne_of_lt (Nat.lt_of_lt_of_le E_la.lt (Nat.le_of_eq gs57.symm))
    have ne_lb_lc : lb ≠ lc := Nat.ne_of_lt (Nat.lt_of_lt_of_le E_lb.lt (Nat.le_of_eq gs57.symm))
    have old_lc : n0 ≤ lc := Nat.le_trans Z0 (Nat.le_of_eq gs57.symm)
    have Z0 := Nat.le_trans Z0 Ex57.1
    have E_la := E_la.ext Ex57
    have F_better_la := F_better_la.ext Ex57
    have F_worse_la := F_worse_la.ext Ex57
    have E_lb := E_lb.ext Ex57
    have F_better_lb := F_better_lb.ext Ex57
    have F_worse_lb := F_worse_lb.ext Ex57
    have E_lc := Aa57
    have F_first_lc : Fld Z hp57 lc "com/example/kurslot/kurslot/book/PriceLevel" "first" "I" (.int (0 : Int32)) := Dd57 (Or.inl (hw _ (List.mem_of_getElem? (i := 14) rfl))) (ty := .int) (by decide)
    have F_last_lc : Fld Z hp57 lc "com/example/kurslot/kurslot/book/PriceLevel" "last" "I" (.int (0 : Int32)) := Dd57 (Or.inl (hw _ (List.mem_of_getElem? (i := 16) rfl))) (ty := .int) (by decide)
    have F_book_lc : Fld Z hp57 lc "com/example/kurslot/kurslot/book/PriceLevel" "book" "Lcom/example/kurslot/kurslot/book/OrderBook;" .null := Dd57 (Or.inr (hw _ (List.mem_of_getElem? (i := 18) rfl))) (ty := (.object "com/example/kurslot/kurslot/book/OrderBook")) (by decide)
    have F_side_lc : Fld Z hp57 lc "com/example/kurslot/kurslot/book/PriceLevel" "side" "Lcom/example/kurslot/kurslot/book/Side;" .null := Dd57 (Or.inr (hw _ (List.mem_of_getElem? (i := 20) rfl))) (ty := (.object "com/example/kurslot/kurslot/book/Side")) (by decide)
    have F_price_lc : Fld Z hp57 lc "com/example/kurslot/kurslot/book/PriceLevel" "price" "J" (.long (0 : Int64)) := Dd57 (Or.inr (hw _ (List.mem_of_getElem? (i := 22) rfl))) (ty := .long) (by decide)
    have F_number_lc : Fld Z hp57 lc "com/example/kurslot/kurslot/book/PriceLevel" "number" "I" (.int (0 : Int32)) := Dd57 (Or.inr (hw _ (List.mem_of_getElem? (i := 24) rfl))) (ty := .int) (by decide)
    have F_better_lc : Fld Z hp57 lc "com/example/kurslot/kurslot/book/PriceLevel" "better" "Lcom/example/kurslot/kurslot/book/PriceLevel;" .null := Dd57 (Or.inl (hw _ (List.mem_of_getElem? (i := 32) rfl))) (ty := (.object "com/example/kurslot/kurslot/book/PriceLevel")) (by decide)
    have F_worse_lc : Fld Z hp57 lc "com/example/kurslot/kurslot/book/PriceLevel" "worse" "Lcom/example/kurslot/kurslot/book/PriceLevel;" .null := Dd57 (Or.inl (hw _ (List.mem_of_getElem? (i := 34) rfl))) (ty := (.object "com/example/kurslot/kurslot/book/PriceLevel")) (by decide)
    refine own_st st57 ?_
    show OGo p e below s room_1 (OLawQ n0) (T57.setTop (mkF m 73 #[.val (.int q1), .val (.int (0 : Int32)), .val (.int (0 : Int32)), .val (.ref sd), .val (.ref la), .val (.ref lb), .unset, .unset, .unset, .unset, .unset] [(.ref lc)]))
    refine own_st (fun t k => XS.dup X57.here hx rfl (hb hby at_73) rfl rfl k) ?_
    show OGo p e below s room_1 (OLawQ n0) (T57.setTop (mkF m 74 #[.val (.int q1), .val (.int (0 : Int32)), .val (.int (0 : Int32)), .val (.ref sd), .val (.ref la), .val (.ref lb), .unset, .unset, .unset, .unset, .unset] [(.ref lc), (.ref lc)]))
    refine own_st (fun t k => XS.aconstNull X57.here hx rfl (hb hby at_74) k) ?_
    show OGo p e below s room_1 (OLawQ n0) (T57.setTop (mkF m 75 #[.val (.int q1), .val (.int (0 : Int32)), .val (.int (0 : Int32)), .val (.ref sd), .val (.ref la), .val (.ref lb), .unset, .unset, .unset, .unset, .unset] [.null, (.ref lc), (.ref lc)]))
    refine own_st (fun t k => XS.aloadN X57.here hx rfl (hb hby at_75) rfl rfl k) ?_
    show OGo p e below s room_1 (OLawQ n0) (T57.setTop (mkF m 76 #[.val (.int q1), .val (.int (0 : Int32)), .val (.int (0 : Int32)), .val (.ref sd), .val (.ref la), .val (.ref lb), .unset, .unset, .unset, .unset, .unset] [(.ref sd), .null, (.ref lc), (.ref lc)]))
    refine own_st (fun t k => XS.lconst X57.here hx rfl (hb hby at_76) k) ?_
    show OGo p e below s room_1 (OLawQ n0) (T57.setTop (mkF m 77 #[.val (.int q1), .val (.int (0 : Int32)), .val (.int (0 : Int32)), .val (.ref sd), .val (.ref la), .val (.ref lb), .unset, .unset, .unset, .unset, .unset] [(.long (1 : Int64)), (.ref sd), .null, (.ref lc), (.ref lc)]))
    refine own_st (fun t k => XS.iconst X57.here hx rfl (hb hby at_77) k) ?_
    show OGo p e below s room_1 (OLawQ n0) (T57.setTop (mkF m 78 #[.val (.int q1), .val (.int (0 : Int32)), .val (.int (0 : Int32)), .val (.ref sd), .val (.ref la), .val (.ref lb), .unset, .unset, .unset, .unset, .unset] [(.int (2 : Int32)), (.long (1 : Int64)), (.ref sd), .null, (.ref lc), (.ref lc)]))
    obtain ⟨_, T58, Lc58, X58, hQ58, st58⟩ := own_callI X57 hx hZ (y := (⟨"com/example/kurslot/kurslot/book/PriceLevel", "<init>", "(Lcom/example/kurslot/kurslot/book/OrderBook;Lcom/example/kurslot/kurslot/book/Side;JI)V"⟩ : MethodName)) (W := 1) rfl hown (hw _ (List.mem_of_getElem? (i := 7) rfl)) (hw _ (List.mem_of_getElem? (i := 8) rfl)) (hw _ (List.mem_of_getElem? (i := 9) rfl)) (hw _ (List.mem_of_getElem? (i := 5) rfl)) (by decide) (rm1 l Z a0 hw lc sd (1 : Int64) (2 : Int32) hp57 n0 Z0 old_lc E_lc F_better_lc F_worse_lc F_first_lc F_last_lc F_book_lc F_side_lc F_price_lc F_number_lc) (by decide) (by decide) (a := lc) (g := (mkF m 78 #[.val (.int q1), .val (.int (0 : Int32)), .val (.int (0 : Int32)), .val (.ref sd), .val (.ref la), .val (.ref lb), .unset, .unset, .unset, .unset, .unset] [(.int (2 : Int32)), (.long (1 : Int64)), (.ref sd), .null, (.ref lc), (.ref lc)])) rfl (by rw [hml]; rfl) (argsL := [.null, (.ref sd), (.long (1 : Int64)), (.int (2 : Int32))]) (rest := [(.ref lc)]) (lenOf pd_0 rfl) rfl (by show 2 * 0 + _ ≤ _; exact Nat.le_of_eq rfl) (hb hby at_78) rfl e57 (by decide) (by decide)
    obtain ⟨rfl, Nq58, Kq58, q58_0, q58_1, q58_2⟩ := hQ58
    have Z0 := Nat.le_trans Z0 Kq58.1
    have E_la := E_la.keep Kq58
    have F_better_la := F_better_la.keep Kq58 (ninS ne_la_lc nin0)
    have F_worse_la := F_worse_la.keep Kq58 (ninS ne_la_lc nin0)
    have E_lb := E_lb.keep Kq58
    have F_better_lb := F_better_lb.keep Kq58 (ninS ne_lb_lc nin0)
    have F_worse_lb := F_worse_lb.keep Kq58 (ninS ne_lb_lc nin0)
    have Nr58 := Fr.app Nr56 Nq58
    have E_lc := q58_0
    have F_better_lc := q58_1
    have F_worse_lc := q58_2
    refine own_st st58 ?_
    show OGo p e below s room_1 (OLawQ n0) (T58.setTop (mkF m 81 #[.val (.int q1), .val (.int (0 : Int32)), .val (.int (0 : Int32)), .val (.ref sd), .val (.ref la), .val (.ref lb), .unset, .unset, .unset, .unset, .unset] [(.ref lc)]))
    refine own_st (fun t k => XS.astore X58.here hx rfl (hb hby at_81) rfl rfl (l' := #[.val (.int q1), .val (.int (0 : Int32)), .val (.int (0 : Int32)), .val (.ref sd), .val (.ref la), .val (.ref lb), .val (.ref lc), .unset, .unset, .unset, .unset]) rfl k) ?_
    show OGo p e below s room_1 (OLawQ n0) (T58.setTop (mkF m 83 #[.val (.int q1), .val (.int (0 : Int32)), .val (.int (0 : Int32)), .val (.ref sd), .val (.ref la), .val (.ref lb), .val (.ref lc), .unset, .unset, .unset, .unset] []))
    obtain ⟨T59, hp59, X59, e59, Ex59, Aa59, Dd59, -, st59⟩ := newO X58 hx hZ hown (hw _ (List.mem_of_getElem? (i := 3) rfl)) (hw _ (List.mem_of_getElem? (i := 4) rfl)) (hw _ (List.mem_of_getElem? (i := 5) rfl)) rfl (g := (mkF m 83 #[.val (.int q1), .val (.int (0 : Int32)), .val (.int (0 : Int32)), .val (.ref sd), .val (.ref la), .val (.ref lb), .val (.ref lc), .unset, .unset, .unset, .unset] [])) rfl (hb hby at_83) (by decide) (by decide)
    obtain ⟨ld, gs59⟩ : ∃ z, z = T58.heap.size := ⟨_, rfl⟩
    rw [← gs59] at Aa59 Dd59 st59
    have ne_la_ld : la ≠ ld := Nat.ne_of_lt (Nat.lt_of_lt_of_le E_la.lt (Nat.le_of_eq gs59.symm))
    have ne_lb_ld : lb ≠ ld := Nat.ne_of_lt (Nat.lt_of_lt_of_le E_lb.lt (Nat.le_of_eq gs59.symm))
    have ne_lc_ld : lc ≠ ld := Nat.ne_of_lt (Nat.lt_of_lt_of_le E_lc.lt (Nat.le_of_eq gs59.symm))
    have old_ld : n0 ≤ ld := Nat.le_trans Z0 (Nat.le_of_eq gs59.symm)
    have Z0 := Nat.le_trans Z0 Ex59.1
    have E_la := E_la.ext Ex59
    have F_better_la := F_better_la.ext Ex59
    have F_worse_la := F_worse_la.ext Ex59
    have E_lb := E_lb.ext Ex59
    have F_better_lb := F_better_lb.ext Ex59
    have F_worse_lb := F_worse_lb.ext Ex59
    have E_lc := E_lc.ext Ex59
    have F_better_lc := F_better_lc.ext Ex59
    have F_worse_lc := F_worse_lc.ext Ex59
    have E_ld := Aa59
    have F_first_ld : Fld Z hp59 ld "com/example/kurslot/kurslot/book/PriceLevel" "first" "I" (.int (0 : Int32)) := Dd59 (Or.inl (hw _ (List.mem_of_getElem? (i := 14) rfl))) (ty := .int) (by decide)
    have F_last_ld : Fld Z hp59 ld "com/example/kurslot/kurslot/book/PriceLevel" "last" "I" (.int (0 : Int32)) := Dd59 (Or.inl (hw _ (List.mem_of_getElem? (i := 16) rfl))) (ty := .int) (by decide)
    have F_book_ld : Fld Z hp59 ld "com/example/kurslot/kurslot/book/PriceLevel" "book" "Lcom/example/kurslot/kurslot/book/OrderBook;" .null := Dd59 (Or.inr (hw _ (List.mem_of_getElem? (i := 18) rfl))) (ty := (.object "com/example/kurslot/kurslot/book/OrderBook")) (by decide)
    have F_side_ld : Fld Z hp59 ld "com/example/kurslot/kurslot/book/PriceLevel" "side" "Lcom/example/kurslot/kurslot/book/Side;" .null := Dd59 (Or.inr (hw _ (List.mem_of_getElem? (i := 20) rfl))) (ty := (.object "com/example/kurslot/kurslot/book/Side")) (by decide)
    have F_price_ld : Fld Z hp59 ld "com/example/kurslot/kurslot/book/PriceLevel" "price" "J" (.long (0 : Int64)) := Dd59 (Or.inr (hw _ (List.mem_of_getElem? (i := 22) rfl))) (ty := .long) (by decide)
    have F_number_ld : Fld Z hp59 ld "com/example/kurslot/kurslot/book/PriceLevel" "number" "I" (.int (0 : Int32)) := Dd59 (Or.inr (hw _ (List.mem_of_getElem? (i := 24) rfl))) (ty := .int) (by decide)
    have F_better_ld : Fld Z hp59 ld "com/example/kurslot/kurslot/book/PriceLevel" "better" "Lcom/example/kurslot/kurslot/book/PriceLevel;" .null := Dd59 (Or.inl (hw _ (List.mem_of_getElem? (i := 32) rfl))) (ty := (.object "com/example/kurslot/kurslot/book/PriceLevel")) (by decide)
    have F_worse_ld : Fld Z hp59 ld "com/example/kurslot/kurslot/book/PriceLevel" "worse" "Lcom/example/kurslot/kurslot/book/PriceLevel;" .null := Dd59 (Or.inl (hw _ (List.mem_of_getElem? (i := 34) rfl))) (ty := (.object "com/example/kurslot/kurslot/book/PriceLevel")) (by decide)
    refine own_st st59 ?_
    show OGo p e below s room_1 (OLawQ n0) (T59.setTop (mkF m 86 #[.val (.int q1), .val (.int (0 : Int32)), .val (.int (0 : Int32)), .val (.ref sd), .val (.ref la), .val (.ref lb), .val (.ref lc), .unset, .unset, .unset, .unset] [(.ref ld)]))
    refine own_st (fun t k => XS.dup X59.here hx rfl (hb hby at_86) rfl rfl k) ?_
    show OGo p e below s room_1 (OLawQ n0) (T59.setTop (mkF m 87 #[.val (.int q1), .val (.int (0 : Int32)), .val (.int (0 : Int32)), .val (.ref sd), .val (.ref la), .val (.ref lb), .val (.ref lc), .unset, .unset, .unset, .unset] [(.ref ld), (.ref ld)]))
    refine own_st (fun t k => XS.aconstNull X59.here hx rfl (hb hby at_87) k) ?_
    show OGo p e below s room_1 (OLawQ n0) (T59.setTop (mkF m 88 #[.val (.int q1), .val (.int (0 : Int32)), .val (.int (0 : Int32)), .val (.ref sd), .val (.ref la), .val (.ref lb), .val (.ref lc), .unset, .unset, .unset, .unset] [.null, (.ref ld), (.ref ld)]))
    refine own_st (fun t k => XS.aloadN X59.here hx rfl (hb hby at_88) rfl rfl k) ?_
    show OGo p e below s room_1 (OLawQ n0) (T59.setTop (mkF m 89 #[.val (.int q1), .val (.int (0 : Int32)), .val (.int (0 : Int32)), .val (.ref sd), .val (.ref la), .val (.ref lb), .val (.ref lc), .unset, .unset, .unset, .unset] [(.ref sd), .null, (.ref ld), (.ref ld)]))
    refine own_st (fun t k => XS.lconst X59.here hx rfl (hb hby at_89) k) ?_
    show OGo p e below s room_1 (OLawQ n0) (T59.setTop (mkF m 90 #[.val (.int q1), .val (.int (0 : Int32)), .val (.int (0 : Int32)), .val (.ref sd), .val (.ref la), .val (.ref lb), .val (.ref lc), .unset, .unset, .unset, .unset] [(.long (0 : Int64)), (.ref sd), .null, (.ref ld), (.ref ld)]))
    refine own_st (fun t k => XS.iconst X59.here hx rfl (hb hby at_90) k) ?_
    show OGo p e below s room_1 (OLawQ n0) (T59.setTop (mkF m 91 #[.val (.int q1), .val (.int (0 : Int32)), .val (.int (0 : Int32)), .val (.ref sd), .val (.ref la), .val (.ref lb), .val (.ref lc), .unset, .unset, .unset, .unset] [(.int (3 : Int32)), (.long (0 : Int64)), (.ref sd), .null, (.ref ld), (.ref ld)]))
    obtain ⟨_, T60, Lc60, X60, hQ60, st60⟩ := own_callI X59 hx hZ (y := (⟨"com/example/kurslot/kurslot/book/PriceLevel", "<init>", "(Lcom/example/kurslot/kurslot/book/OrderBook;Lcom/example/kurslot/kurslot/book/Side;JI)V"⟩ : MethodName)) (W := 1) rfl hown (hw _ (List.mem_of_getElem? (i := 7) rfl)) (hw _ (List.mem_of_getElem? (i := 8) rfl)) (hw _ (List.mem_of_getElem? (i := 9) rfl)) (hw _ (List.mem_of_getElem? (i := 5) rfl)) (by decide) (rm1 l Z a0 hw ld sd (0 : Int64) (3 : Int32) hp59 n0 Z0 old_ld E_ld F_better_ld F_worse_ld F_first_ld F_last_ld F_book_ld F_side_ld F_price_ld F_number_ld) (by decide) (by decide) (a := ld) (g := (mkF m 91 #[.val (.int q1), .val (.int (0 : Int32)), .val (.int (0 : Int32)), .val (.ref sd), .val (.ref la), .val (.ref lb), .val (.ref lc), .unset, .unset, .unset, .unset] [(.int (3 : Int32)), (.long (0 : Int64)), (.ref sd), .null, (.ref ld), (.ref ld)])) rfl (by rw [hml]; rfl) (argsL := [.null, (.ref sd), (.long (0 : Int64)), (.int (3 : Int32))]) (rest := [(.ref ld)]) (lenOf pd_0 rfl) rfl (by show 2 * 0 + _ ≤ _; exact Nat.le_of_eq rfl) (hb hby at_91) rfl e59 (by decide) (by decide)
    obtain ⟨rfl, Nq60, Kq60, q60_0, q60_1, q60_2⟩ := hQ60
    have Z0 := Nat.le_trans Z0 Kq60.1
    have E_la := E_la.keep Kq60
    have F_better_la := F_better_la.keep Kq60 (ninS ne_la_ld nin0)
    have F_worse_la := F_worse_la.keep Kq60 (ninS ne_la_ld nin0)
    have E_lb := E_lb.keep Kq60
    have F_better_lb := F_better_lb.keep Kq60 (ninS ne_lb_ld nin0)
    have F_worse_lb := F_worse_lb.keep Kq60 (ninS ne_lb_ld nin0)
    have E_lc := E_lc.keep Kq60
    have F_better_lc := F_better_lc.keep Kq60 (ninS ne_lc_ld nin0)
    have F_worse_lc := F_worse_lc.keep Kq60 (ninS ne_lc_ld nin0)
    have Nr60 := Fr.app Nr58 Nq60
    have E_ld := q60_0
    have F_better_ld := q60_1
    have F_worse_ld := q60_2
    refine own_st st60 ?_
    show OGo p e below s room_1 (OLawQ n0) (T60.setTop (mkF m 94 #[.val (.int q1), .val (.int (0 : Int32)), .val (.int (0 : Int32)), .val (.ref sd), .val (.ref la), .val (.ref lb), .val (.ref lc), .unset, .unset, .unset, .unset] [(.ref ld)]))
    refine own_st (fun t k => XS.astore X60.here hx rfl (hb hby at_94) rfl rfl (l' := #[.val (.int q1), .val (.int (0 : Int32)), .val (.int (0 : Int32)), .val (.ref sd), .val (.ref la), .val (.ref lb), .val (.ref lc), .val (.ref ld), .unset, .unset, .unset]) rfl k) ?_
    show OGo p e below s room_1 (OLawQ n0) (T60.setTop (mkF m 96 #[.val (.int q1), .val (.int (0 : Int32)), .val (.int (0 : Int32)), .val (.ref sd), .val (.ref la), .val (.ref lb), .val (.ref lc), .val (.ref ld), .unset, .unset, .unset] []))
    refine own_st (fun t k => XS.iloadN X60.here hx rfl (hb hby at_96) rfl k) ?_
    show OGo p e below s room_1 (OLawQ n0) (T60.setTop (mkF m 97 #[.val (.int q1), .val (.int (0 : Int32)), .val (.int (0 : Int32)), .val (.ref sd), .val (.ref la), .val (.ref lb), .val (.ref lc), .val (.ref ld), .unset, .unset, .unset] [(.int (0 : Int32))]))
    refine own_st (fun t k => XS.ifYes X60.here hx rfl (pc0 := 97) (pc' := 105) rfl (hb hby at_97) rfl ((if0 _ _).trans (teq ((by decide : (0 : Int32) = (0 : Int32)))).1) (by decide) (by decide) k) ?_
    show OGo p e below s room_1 (OLawQ n0) (T60.setTop (mkF m 105 #[.val (.int q1), .val (.int (0 : Int32)), .val (.int (0 : Int32)), .val (.ref sd), .val (.ref la), .val (.ref lb), .val (.ref lc), .val (.ref ld), .unset, .unset, .unset] []))
    refine own_st (fun t k => XS.aconstNull X60.here hx rfl (hb hby at_105) k) ?_
    show OGo p e below s room_1 (OLawQ n0) (T60.setTop (mkF m 106 #[.val (.int q1), .val (.int (0 : Int32)), .val (.int (0 : Int32)), .val (.ref sd), .val (.ref la), .val (.ref lb), .val (.ref lc), .val (.ref ld), .unset, .unset, .unset] [.null]))
    refine own_st (fun t k => XS.astore X60.here hx rfl (hb hby at_106) rfl rfl (l' := #[.val (.int q1), .val (.int (0 : Int32)), .val (.int (0 : Int32)), .val (.ref sd), .val (.ref la), .val (.ref lb), .val (.ref lc), .val (.ref ld), .val .null, .unset, .unset]) rfl k) ?_
    show OGo p e below s room_1 (OLawQ n0) (T60.setTop (mkF m 108 #[.val (.int q1), .val (.int (0 : Int32)), .val (.int (0 : Int32)), .val (.ref sd), .val (.ref la), .val (.ref lb), .val (.ref lc), .val (.ref ld), .val .null, .unset, .unset] []))
    refine own_st (fun t k => XS.iloadN X60.here hx rfl (hb hby at_108) rfl k) ?_
    show OGo p e below s room_1 (OLawQ n0) (T60.setTop (mkF m 109 #[.val (.int q1), .val (.int (0 : Int32)), .val (.int (0 : Int32)), .val (.ref sd), .val (.ref la), .val (.ref lb), .val (.ref lc), .val (.ref ld), .val .null, .unset, .unset] [(.int (0 : Int32))]))
    refine own_st (fun t k => XS.ifYes X60.here hx rfl (pc0 := 109) (pc' := 117) rfl (hb hby at_109) rfl ((if0 _ _).trans (teq ((by decide : (0 : Int32) = (0 : Int32)))).1) (by decide) (by decide) k) ?_
    show OGo p e below s room_1 (OLawQ n0) (T60.setTop (mkF m 117 #[.val (.int q1), .val (.int (0 : Int32)), .val (.int (0 : Int32)), .val (.ref sd), .val (.ref la), .val (.ref lb), .val (.ref lc), .val (.ref ld), .val .null, .unset, .unset] []))
    refine own_st (fun t k => XS.aconstNull X60.here hx rfl (hb hby at_117) k) ?_
    show OGo p e below s room_1 (OLawQ n0) (T60.setTop (mkF m 118 #[.val (.int q1), .val (.int (0 : Int32)), .val (.int (0 : Int32)), .val (.ref sd), .val (.ref la), .val (.ref lb), .val (.ref lc), .val (.ref ld), .val .null, .unset, .unset] [.null]))
    refine own_st (fun t k => XS.astore X60.here hx rfl (hb hby at_118) rfl rfl (l' := #[.val (.int q1), .val (.int (0 : Int32)), .val (.int (0 : Int32)), .val (.ref sd), .val (.ref la), .val (.ref lb), .val (.ref lc), .val (.ref ld), .val .null, .val .null, .unset]) rfl k) ?_
    show OGo p e below s room_1 (OLawQ n0) (T60.setTop (mkF m 120 #[.val (.int q1), .val (.int (0 : Int32)), .val (.int (0 : Int32)), .val (.ref sd), .val (.ref la), .val (.ref lb), .val (.ref lc), .val (.ref ld), .val .null, .val .null, .unset] []))
    refine own_st (fun t k => XS.iloadN X60.here hx rfl (hb hby at_120) rfl k) ?_
    show OGo p e below s room_1 (OLawQ n0) (T60.setTop (mkF m 121 #[.val (.int q1), .val (.int (0 : Int32)), .val (.int (0 : Int32)), .val (.ref sd), .val (.ref la), .val (.ref lb), .val (.ref lc), .val (.ref ld), .val .null, .val .null, .unset] [(.int (0 : Int32))]))
    refine own_st (fun t k => XS.ifYes X60.here hx rfl (pc0 := 121) (pc' := 132) rfl (hb hby at_121) rfl ((if0 _ _).trans (teq ((by decide : (0 : Int32) = (0 : Int32)))).1) (by decide) (by decide) k) ?_
    show OGo p e below s room_1 (OLawQ n0) (T60.setTop (mkF m 132 #[.val (.int q1), .val (.int (0 : Int32)), .val (.int (0 : Int32)), .val (.ref sd), .val (.ref la), .val (.ref lb), .val (.ref lc), .val (.ref ld), .val .null, .val .null, .unset] []))
    refine own_st (fun t k => XS.aload X60.here hx rfl (hb hby at_132) rfl rfl k) ?_
    show OGo p e below s room_1 (OLawQ n0) (T60.setTop (mkF m 134 #[.val (.int q1), .val (.int (0 : Int32)), .val (.int (0 : Int32)), .val (.ref sd), .val (.ref la), .val (.ref lb), .val (.ref lc), .val (.ref ld), .val .null, .val .null, .unset] [(.ref lb)]))
    refine own_st (fun t k => XS.aload X60.here hx rfl (hb hby at_134) rfl rfl k) ?_
    show OGo p e below s room_1 (OLawQ n0) (T60.setTop (mkF m 136 #[.val (.int q1), .val (.int (0 : Int32)), .val (.int (0 : Int32)), .val (.ref sd), .val (.ref la), .val (.ref lb), .val (.ref lc), .val (.ref ld), .val .null, .val .null, .unset] [.null, (.ref lb)]))
    refine own_st (fun t k => XS.aload X60.here hx rfl (hb hby at_136) rfl rfl k) ?_
    show OGo p e below s room_1 (OLawQ n0) (T60.setTop (mkF m 138 #[.val (.int q1), .val (.int (0 : Int32)), .val (.int (0 : Int32)), .val (.ref sd), .val (.ref la), .val (.ref lb), .val (.ref lc), .val (.ref ld), .val .null, .val .null, .unset] [.null, .null, (.ref lb)]))
    obtain ⟨_, T61, Lc61, X61, hQ61, st61⟩ := own_callV X60 hx hZ (y := (⟨"com/example/kurslot/kurslot/book/PriceLevel", "linkBetween", "(Lcom/example/kurslot/kurslot/book/PriceLevel;Lcom/example/kurslot/kurslot/book/PriceLevel;)V"⟩ : MethodName)) (z := (⟨"com/example/kurslot/kurslot/book/PriceLevel", "linkBetween", "(Lcom/example/kurslot/kurslot/book/PriceLevel;Lcom/example/kurslot/kurslot/book/PriceLevel;)V"⟩ : MethodName)) (W := 0) hown (hw _ (List.mem_of_getElem? (i := 26) rfl)) (hw _ (List.mem_of_getElem? (i := 27) rfl)) (notFace_of_selects (args := #[]) (mvT hZ (hw _ (List.mem_of_getElem? (i := 29) rfl)))) (hw _ (List.mem_of_getElem? (i := 29) rfl)) (hw _ (List.mem_of_getElem? (i := 28) rfl)) (hw _ (List.mem_of_getElem? (i := 30) rfl)) (hw _ (List.mem_of_getElem? (i := 5) rfl)) (by decide) (rm3_00 l Z a0 hw lb T60.heap n0 Z0 old_lb E_lb F_better_lb F_worse_lb) (by decide) (by decide) E_lb (g := (mkF m 138 #[.val (.int q1), .val (.int (0 : Int32)), .val (.int (0 : Int32)), .val (.ref sd), .val (.ref la), .val (.ref lb), .val (.ref lc), .val (.ref ld), .val .null, .val .null, .unset] [.null, .null, (.ref lb)])) rfl (by rw [hml]; rfl) (argsL := [.null, .null]) (rest := []) (lenOf pd_1 rfl) rfl (by show 2 * 0 + _ ≤ _; exact Nat.le_of_eq rfl) (hb hby at_138) rfl rfl (by decide) (by decide)
    obtain ⟨rfl, Nq61, Kq61, q61_0, q61_1, q61_2⟩ := hQ61
    have Z0 := Nat.le_trans Z0 Kq61.1
    have E_la := E_la.keep Kq61
    have F_better_la := F_better_la.keep Kq61 (ninS ne_la_lb nin0)
    have F_worse_la := F_worse_la.keep Kq61 (ninS ne_la_lb nin0)
    have E_lc := E_lc.keep Kq61
    have F_better_lc := F_better_lc.keep Kq61 (ninS (Ne.symm ne_lb_lc) nin0)
    have F_worse_lc := F_worse_lc.keep Kq61 (ninS (Ne.symm ne_lb_lc) nin0)
    have E_ld := E_ld.keep Kq61
    have F_better_ld := F_better_ld.keep Kq61 (ninS (Ne.symm ne_lb_ld) nin0)
    have F_worse_ld := F_worse_ld.keep Kq61 (ninS (Ne.symm ne_lb_ld) nin0)
    have Nr61 := Fr.app Nr60 Nq61
    have E_lb := q61_0
    have F_better_lb := q61_1
    have F_worse_lb := q61_2
    refine own_st st61 ?_
    show OGo p e below s room_1 (OLawQ n0) (T61.setTop (mkF m 141 #[.val (.int q1), .val (.int (0 : Int32)), .val (.int (0 : Int32)), .val (.ref sd), .val (.ref la), .val (.ref lb), .val (.ref lc), .val (.ref ld), .val .null, .val .null, .unset] []))
    refine own_st (fun t k => XS.aload X61.here hx rfl (hb hby at_141) rfl rfl k) ?_
    show OGo p e below s room_1 (OLawQ n0) (T61.setTop (mkF m 143 #[.val (.int q1), .val (.int (0 : Int32)), .val (.int (0 : Int32)), .val (.ref sd), .val (.ref la), .val (.ref lb), .val (.ref lc), .val (.ref ld), .val .null, .val .null, .unset] [(.ref lb)]))
    obtain ⟨_, T62, Lc62, X62, hQ62, st62⟩ := own_callV X61 hx hZ (y := (⟨"com/example/kurslot/kurslot/book/PriceLevel", "unlink", "()V"⟩ : MethodName)) (z := (⟨"com/example/kurslot/kurslot/book/PriceLevel", "unlink", "()V"⟩ : MethodName)) (W := 0) hown (hw _ (List.mem_of_getElem? (i := 35) rfl)) (hw _ (List.mem_of_getElem? (i := 36) rfl)) (notFace_of_selects (args := #[]) (mvT hZ (hw _ (List.mem_of_getElem? (i := 38) rfl)))) (hw _ (List.mem_of_getElem? (i := 38) rfl)) (hw _ (List.mem_of_getElem? (i := 37) rfl)) (hw _ (List.mem_of_getElem? (i := 39) rfl)) (hw _ (List.mem_of_getElem? (i := 5) rfl)) (by decide) (rm4_00 l Z a0 hw lb T61.heap n0 Z0 old_lb E_lb F_better_lb F_worse_lb) (by decide) (by decide) E_lb (g := (mkF m 143 #[.val (.int q1), .val (.int (0 : Int32)), .val (.int (0 : Int32)), .val (.ref sd), .val (.ref la), .val (.ref lb), .val (.ref lc), .val (.ref ld), .val .null, .val .null, .unset] [(.ref lb)])) rfl (by rw [hml]; rfl) (argsL := []) (rest := []) (lenOf pd_2 rfl) rfl (by show 2 * 0 + _ ≤ _; exact Nat.le_of_eq rfl) (hb hby at_143) rfl rfl (by decide) (by decide)
    obtain ⟨rfl, Nq62, Kq62, q62_0, q62_1, q62_2⟩ := hQ62
    have Z0 := Nat.le_trans Z0 Kq62.1
    have E_la := E_la.keep Kq62
    have F_better_la := F_better_la.keep Kq62 (ninS ne_la_lb nin0)
    have F_worse_la := F_worse_la.keep Kq62 (ninS ne_la_lb nin0)
    have E_lc := E_lc.keep Kq62
    have F_better_lc := F_better_lc.keep Kq62 (ninS (Ne.symm ne_lb_lc) nin0)
    have F_worse_lc := F_worse_lc.keep Kq62 (ninS (Ne.symm ne_lb_lc) nin0)
    have E_ld := E_ld.keep Kq62
    have F_better_ld := F_better_ld.keep Kq62 (ninS (Ne.symm ne_lb_ld) nin0)
    have F_worse_ld := F_worse_ld.keep Kq62 (ninS (Ne.symm ne_lb_ld) nin0)
    have Nr62 := Fr.app Nr61 Nq62
    have E_lb := q62_0
    have F_better_lb := q62_1
    have F_worse_lb := q62_2
    refine own_st st62 ?_
    show OGo p e below s room_1 (OLawQ n0) (T62.setTop (mkF m 146 #[.val (.int q1), .val (.int (0 : Int32)), .val (.int (0 : Int32)), .val (.ref sd), .val (.ref la), .val (.ref lb), .val (.ref lc), .val (.ref ld), .val .null, .val .null, .unset] []))
    refine own_st (fun t k => XS.aload X62.here hx rfl (hb hby at_146) rfl rfl k) ?_
    show OGo p e below s room_1 (OLawQ n0) (T62.setTop (mkF m 148 #[.val (.int q1), .val (.int (0 : Int32)), .val (.int (0 : Int32)), .val (.ref sd), .val (.ref la), .val (.ref lb), .val (.ref lc), .val (.ref ld), .val .null, .val .null, .unset] [(.ref lb)]))
    obtain ⟨T63, X63, e63, st63⟩ := own_callVP X62 hx hZ (y := (⟨"com/example/kurslot/kurslot/book/PriceLevel", "worse", "()Lcom/example/kurslot/kurslot/book/PriceLevel;"⟩ : MethodName)) (z := (⟨"com/example/kurslot/kurslot/book/PriceLevel", "worse", "()Lcom/example/kurslot/kurslot/book/PriceLevel;"⟩ : MethodName)) (W := 0) hown (hw _ (List.mem_of_getElem? (i := 40) rfl)) (hw _ (List.mem_of_getElem? (i := 41) rfl)) (notFace_of_selects (args := #[]) (mvT hZ (hw _ (List.mem_of_getElem? (i := 43) rfl)))) (hw _ (List.mem_of_getElem? (i := 43) rfl)) (hw _ (List.mem_of_getElem? (i := 42) rfl)) (hw _ (List.mem_of_getElem? (i := 44) rfl)) (hw _ (List.mem_of_getElem? (i := 5) rfl)) (by decide) (rm5_0 l Z a0 hw lb T62.heap F_worse_lb) (by decide) (by decide) E_lb (g := (mkF m 148 #[.val (.int q1), .val (.int (0 : Int32)), .val (.int (0 : Int32)), .val (.ref sd), .val (.ref la), .val (.ref lb), .val (.ref lc), .val (.ref ld), .val .null, .val .null, .unset] [(.ref lb)])) rfl (by rw [hml]; rfl) (argsL := []) (rest := []) (lenOf pd_3 rfl) rfl (by show 2 * 0 + _ ≤ _; exact Nat.le_of_eq rfl) (hb hby at_148) rfl rfl (by decide) (by decide)
    refine own_st st63 ?_
    show OGo p e below s room_1 (OLawQ n0) (T63.setTop (mkF m 151 #[.val (.int q1), .val (.int (0 : Int32)), .val (.int (0 : Int32)), .val (.ref sd), .val (.ref la), .val (.ref lb), .val (.ref lc), .val (.ref ld), .val .null, .val .null, .unset] [.null]))
    refine own_st (fun t k => XS.ifnonnullNo X63.here hx rfl (hb hby at_151) rfl k) ?_
    show OGo p e below s room_1 (OLawQ n0) (T63.setTop (mkF m 154 #[.val (.int q1), .val (.int (0 : Int32)), .val (.int (0 : Int32)), .val (.ref sd), .val (.ref la), .val (.ref lb), .val (.ref lc), .val (.ref ld), .val .null, .val .null, .unset] []))
    refine own_st (fun t k => XS.iconst X63.here hx rfl (hb hby at_154) k) ?_
    show OGo p e below s room_1 (OLawQ n0) (T63.setTop (mkF m 155 #[.val (.int q1), .val (.int (0 : Int32)), .val (.int (0 : Int32)), .val (.ref sd), .val (.ref la), .val (.ref lb), .val (.ref lc), .val (.ref ld), .val .null, .val .null, .unset] [(.int (1 : Int32))]))
    refine own_st (fun t k => XS.goto X63.here hx rfl (pc0 := 155) (pc' := 159) rfl (hb hby at_155) (by decide) (by decide) k) ?_
    show OGo p e below s room_1 (OLawQ n0) (T63.setTop (mkF m 159 #[.val (.int q1), .val (.int (0 : Int32)), .val (.int (0 : Int32)), .val (.ref sd), .val (.ref la), .val (.ref lb), .val (.ref lc), .val (.ref ld), .val .null, .val .null, .unset] [(.int (1 : Int32))]))
    refine own_st (fun t k => XS.istore X63.here hx rfl (hb hby at_159) rfl (l' := #[.val (.int q1), .val (.int (0 : Int32)), .val (.int (0 : Int32)), .val (.ref sd), .val (.ref la), .val (.ref lb), .val (.ref lc), .val (.ref ld), .val .null, .val .null, .val (.int (1 : Int32))]) rfl k) ?_
    show OGo p e below s room_1 (OLawQ n0) (T63.setTop (mkF m 161 #[.val (.int q1), .val (.int (0 : Int32)), .val (.int (0 : Int32)), .val (.ref sd), .val (.ref la), .val (.ref lb), .val (.ref lc), .val (.ref ld), .val .null, .val .null, .val (.int (1 : Int32))] []))
    refine own_st (fun t k => XS.iloadN X63.here hx rfl (hb hby at_161) rfl k) ?_
    show OGo p e below s room_1 (OLawQ n0) (T63.setTop (mkF m 162 #[.val (.int q1), .val (.int (0 : Int32)), .val (.int (0 : Int32)), .val (.ref sd), .val (.ref la), .val (.ref lb), .val (.ref lc), .val (.ref ld), .val .null, .val .null, .val (.int (1 : Int32))] [(.int (0 : Int32))]))
    refine own_st (fun t k => XS.ifYes X63.here hx rfl (pc0 := 162) (pc' := 187) rfl (hb hby at_162) rfl ((if0 _ _).trans (teq ((by decide : (0 : Int32) = (0 : Int32)))).1) (by decide) (by decide) k) ?_
    show OGo p e below s room_1 (OLawQ n0) (T63.setTop (mkF m 187 #[.val (.int q1), .val (.int (0 : Int32)), .val (.int (0 : Int32)), .val (.ref sd), .val (.ref la), .val (.ref lb), .val (.ref lc), .val (.ref ld), .val .null, .val .null, .val (.int (1 : Int32))] []))
    refine own_st (fun t k => XS.iloadN X63.here hx rfl (hb hby at_187) rfl k) ?_
    show OGo p e below s room_1 (OLawQ n0) (T63.setTop (mkF m 188 #[.val (.int q1), .val (.int (0 : Int32)), .val (.int (0 : Int32)), .val (.ref sd), .val (.ref la), .val (.ref lb), .val (.ref lc), .val (.ref ld), .val .null, .val .null, .val (.int (1 : Int32))] [(.int (0 : Int32))]))
    refine own_st (fun t k => XS.ifYes X63.here hx rfl (pc0 := 188) (pc' := 213) rfl (hb hby at_188) rfl ((if0 _ _).trans (teq ((by decide : (0 : Int32) = (0 : Int32)))).1) (by decide) (by decide) k) ?_
    show OGo p e below s room_1 (OLawQ n0) (T63.setTop (mkF m 213 #[.val (.int q1), .val (.int (0 : Int32)), .val (.int (0 : Int32)), .val (.ref sd), .val (.ref la), .val (.ref lb), .val (.ref lc), .val (.ref ld), .val .null, .val .null, .val (.int (1 : Int32))] []))
    refine own_st (fun t k => XS.aload X63.here hx rfl (hb hby at_213) rfl rfl k) ?_
    show OGo p e below s room_1 (OLawQ n0) (T63.setTop (mkF m 215 #[.val (.int q1), .val (.int (0 : Int32)), .val (.int (0 : Int32)), .val (.ref sd), .val (.ref la), .val (.ref lb), .val (.ref lc), .val (.ref ld), .val .null, .val .null, .val (.int (1 : Int32))] [(.ref lb)]))
    obtain ⟨_, T64, Lc64, X64, hQ64, st64⟩ := own_callV X63 hx hZ (y := (⟨"com/example/kurslot/kurslot/book/PriceLevel", "unlink", "()V"⟩ : MethodName)) (z := (⟨"com/example/kurslot/kurslot/book/PriceLevel", "unlink", "()V"⟩ : MethodName)) (W := 0) hown (hw _ (List.mem_of_getElem? (i := 35) rfl)) (hw _ (List.mem_of_getElem? (i := 36) rfl)) (notFace_of_selects (args := #[]) (mvT hZ (hw _ (List.mem_of_getElem? (i := 38) rfl)))) (hw _ (List.mem_of_getElem? (i := 38) rfl)) (hw _ (List.mem_of_getElem? (i := 37) rfl)) (hw _ (List.mem_of_getElem? (i := 39) rfl)) (hw _ (List.mem_of_getElem? (i := 5) rfl)) (by decide) (rm4_00 l Z a0 hw lb T62.heap n0 Z0 old_lb E_lb F_better_lb F_worse_lb) (by decide) (by decide) E_lb (g := (mkF m 215 #[.val (.int q1), .val (.int (0 : Int32)), .val (.int (0 : Int32)), .val (.ref sd), .val (.ref la), .val (.ref lb), .val (.ref lc), .val (.ref ld), .val .null, .val .null, .val (.int (1 : Int32))] [(.ref lb)])) rfl (by rw [hml]; rfl) (argsL := []) (rest := []) (lenOf pd_2 rfl) rfl (by show 2 * 0 + _ ≤ _; exact Nat.le_of_eq rfl) (hb hby at_215) rfl e63 (by decide) (by decide)
    obtain ⟨rfl, Nq64, Kq64, q64_0, q64_1, q64_2⟩ := hQ64
    have Z0 := Nat.le_trans Z0 Kq64.1
    have E_la := E_la.keep Kq64
    have F_better_la := F_better_la.keep Kq64 (ninS ne_la_lb nin0)
    have F_worse_la := F_worse_la.keep Kq64 (ninS ne_la_lb nin0)
    have E_lc := E_lc.keep Kq64
    have F_better_lc := F_better_lc.keep Kq64 (ninS (Ne.symm ne_lb_lc) nin0)
    have F_worse_lc := F_worse_lc.keep Kq64 (ninS (Ne.symm ne_lb_lc) nin0)
    have E_ld := E_ld.keep Kq64
    have F_better_ld := F_better_ld.keep Kq64 (ninS (Ne.symm ne_lb_ld) nin0)
    have F_worse_ld := F_worse_ld.keep Kq64 (ninS (Ne.symm ne_lb_ld) nin0)
    have Nr64 := Fr.app Nr62 Nq64
    have E_lb := q64_0
    have F_better_lb := q64_1
    have F_worse_lb := q64_2
    refine own_st st64 ?_
    show OGo p e below s room_1 (OLawQ n0) (T64.setTop (mkF m 218 #[.val (.int q1), .val (.int (0 : Int32)), .val (.int (0 : Int32)), .val (.ref sd), .val (.ref la), .val (.ref lb), .val (.ref lc), .val (.ref ld), .val .null, .val .null, .val (.int (1 : Int32))] []))
    refine own_st (fun t k => XS.iload X64.here hx rfl (hb hby at_218) rfl k) ?_
    show OGo p e below s room_1 (OLawQ n0) (T64.setTop (mkF m 220 #[.val (.int q1), .val (.int (0 : Int32)), .val (.int (0 : Int32)), .val (.ref sd), .val (.ref la), .val (.ref lb), .val (.ref lc), .val (.ref ld), .val .null, .val .null, .val (.int (1 : Int32))] [(.int (1 : Int32))]))
    refine own_st (fun t k => XS.ifNo X64.here hx rfl (hb hby at_220) rfl ((if0 _ _).trans (feq ((by decide : ¬ (1 : Int32) = (0 : Int32)))).1) k) ?_
    show OGo p e below s room_1 (OLawQ n0) (T64.setTop (mkF m 223 #[.val (.int q1), .val (.int (0 : Int32)), .val (.int (0 : Int32)), .val (.ref sd), .val (.ref la), .val (.ref lb), .val (.ref lc), .val (.ref ld), .val .null, .val .null, .val (.int (1 : Int32))] []))
    refine own_st (fun t k => XS.aload X64.here hx rfl (hb hby at_223) rfl rfl k) ?_
    show OGo p e below s room_1 (OLawQ n0) (T64.setTop (mkF m 225 #[.val (.int q1), .val (.int (0 : Int32)), .val (.int (0 : Int32)), .val (.ref sd), .val (.ref la), .val (.ref lb), .val (.ref lc), .val (.ref ld), .val .null, .val .null, .val (.int (1 : Int32))] [(.ref lb)]))
    obtain ⟨T65, X65, e65, st65⟩ := own_callVP X64 hx hZ (y := (⟨"com/example/kurslot/kurslot/book/PriceLevel", "worse", "()Lcom/example/kurslot/kurslot/book/PriceLevel;"⟩ : MethodName)) (z := (⟨"com/example/kurslot/kurslot/book/PriceLevel", "worse", "()Lcom/example/kurslot/kurslot/book/PriceLevel;"⟩ : MethodName)) (W := 0) hown (hw _ (List.mem_of_getElem? (i := 40) rfl)) (hw _ (List.mem_of_getElem? (i := 41) rfl)) (notFace_of_selects (args := #[]) (mvT hZ (hw _ (List.mem_of_getElem? (i := 43) rfl)))) (hw _ (List.mem_of_getElem? (i := 43) rfl)) (hw _ (List.mem_of_getElem? (i := 42) rfl)) (hw _ (List.mem_of_getElem? (i := 44) rfl)) (hw _ (List.mem_of_getElem? (i := 5) rfl)) (by decide) (rm5_0 l Z a0 hw lb T64.heap F_worse_lb) (by decide) (by decide) E_lb (g := (mkF m 225 #[.val (.int q1), .val (.int (0 : Int32)), .val (.int (0 : Int32)), .val (.ref sd), .val (.ref la), .val (.ref lb), .val (.ref lc), .val (.ref ld), .val .null, .val .null, .val (.int (1 : Int32))] [(.ref lb)])) rfl (by rw [hml]; rfl) (argsL := []) (rest := []) (lenOf pd_3 rfl) rfl (by show 2 * 0 + _ ≤ _; exact Nat.le_of_eq rfl) (hb hby at_225) rfl rfl (by decide) (by decide)
    refine own_st st65 ?_
    show OGo p e below s room_1 (OLawQ n0) (T65.setTop (mkF m 228 #[.val (.int q1), .val (.int (0 : Int32)), .val (.int (0 : Int32)), .val (.ref sd), .val (.ref la), .val (.ref lb), .val (.ref lc), .val (.ref ld), .val .null, .val .null, .val (.int (1 : Int32))] [.null]))
    refine own_st (fun t k => XS.ifnonnullNo X65.here hx rfl (hb hby at_228) rfl k) ?_
    show OGo p e below s room_1 (OLawQ n0) (T65.setTop (mkF m 231 #[.val (.int q1), .val (.int (0 : Int32)), .val (.int (0 : Int32)), .val (.ref sd), .val (.ref la), .val (.ref lb), .val (.ref lc), .val (.ref ld), .val .null, .val .null, .val (.int (1 : Int32))] []))
    refine own_st (fun t k => XS.iconst X65.here hx rfl (hb hby at_231) k) ?_
    show OGo p e below s room_1 (OLawQ n0) (T65.setTop (mkF m 232 #[.val (.int q1), .val (.int (0 : Int32)), .val (.int (0 : Int32)), .val (.ref sd), .val (.ref la), .val (.ref lb), .val (.ref lc), .val (.ref ld), .val .null, .val .null, .val (.int (1 : Int32))] [(.int (1 : Int32))]))
    refine own_st (fun t k => XS.goto X65.here hx rfl (pc0 := 232) (pc' := 236) rfl (hb hby at_232) (by decide) (by decide) k) ?_
    show OGo p e below s room_1 (OLawQ n0) (T65.setTop (mkF m 236 #[.val (.int q1), .val (.int (0 : Int32)), .val (.int (0 : Int32)), .val (.ref sd), .val (.ref la), .val (.ref lb), .val (.ref lc), .val (.ref ld), .val .null, .val .null, .val (.int (1 : Int32))] [(.int (1 : Int32))]))
    refine own_st (fun t k => XS.istore X65.here hx rfl (hb hby at_236) rfl (l' := #[.val (.int q1), .val (.int (0 : Int32)), .val (.int (0 : Int32)), .val (.ref sd), .val (.ref la), .val (.ref lb), .val (.ref lc), .val (.ref ld), .val .null, .val .null, .val (.int (1 : Int32))]) rfl k) ?_
    show OGo p e below s room_1 (OLawQ n0) (T65.setTop (mkF m 238 #[.val (.int q1), .val (.int (0 : Int32)), .val (.int (0 : Int32)), .val (.ref sd), .val (.ref la), .val (.ref lb), .val (.ref lc), .val (.ref ld), .val .null, .val .null, .val (.int (1 : Int32))] []))
    refine own_st (fun t k => XS.iloadN X65.here hx rfl (hb hby at_238) rfl k) ?_
    show OGo p e below s room_1 (OLawQ n0) (T65.setTop (mkF m 239 #[.val (.int q1), .val (.int (0 : Int32)), .val (.int (0 : Int32)), .val (.ref sd), .val (.ref la), .val (.ref lb), .val (.ref lc), .val (.ref ld), .val .null, .val .null, .val (.int (1 : Int32))] [(.int (0 : Int32))]))
    refine own_st (fun t k => XS.ifYes X65.here hx rfl (pc0 := 239) (pc' := 264) rfl (hb hby at_239) rfl ((if0 _ _).trans (teq ((by decide : (0 : Int32) = (0 : Int32)))).1) (by decide) (by decide) k) ?_
    show OGo p e below s room_1 (OLawQ n0) (T65.setTop (mkF m 264 #[.val (.int q1), .val (.int (0 : Int32)), .val (.int (0 : Int32)), .val (.ref sd), .val (.ref la), .val (.ref lb), .val (.ref lc), .val (.ref ld), .val .null, .val .null, .val (.int (1 : Int32))] []))
    refine own_st (fun t k => XS.iloadN X65.here hx rfl (hb hby at_264) rfl k) ?_
    show OGo p e below s room_1 (OLawQ n0) (T65.setTop (mkF m 265 #[.val (.int q1), .val (.int (0 : Int32)), .val (.int (0 : Int32)), .val (.ref sd), .val (.ref la), .val (.ref lb), .val (.ref lc), .val (.ref ld), .val .null, .val .null, .val (.int (1 : Int32))] [(.int (0 : Int32))]))
    refine own_st (fun t k => XS.ifYes X65.here hx rfl (pc0 := 265) (pc' := 357) rfl (hb hby at_265) rfl ((if0 _ _).trans (teq ((by decide : (0 : Int32) = (0 : Int32)))).1) (by decide) (by decide) k) ?_
    show OGo p e below s room_1 (OLawQ n0) (T65.setTop (mkF m 357 #[.val (.int q1), .val (.int (0 : Int32)), .val (.int (0 : Int32)), .val (.ref sd), .val (.ref la), .val (.ref lb), .val (.ref lc), .val (.ref ld), .val .null, .val .null, .val (.int (1 : Int32))] []))
    refine own_st (fun t k => XS.iload X65.here hx rfl (hb hby at_357) rfl k) ?_
    show OGo p e below s room_1 (OLawQ n0) (T65.setTop (mkF m 359 #[.val (.int q1), .val (.int (0 : Int32)), .val (.int (0 : Int32)), .val (.ref sd), .val (.ref la), .val (.ref lb), .val (.ref lc), .val (.ref ld), .val .null, .val .null, .val (.int (1 : Int32))] [(.int (1 : Int32))]))
    exact own_retN X65 hx hlk (t := .boolean) hret (by simp) (hb hby at_359) (by decide) (by decide) (⟨rfl, Nr64⟩)
  have J01 : ∀ (T1 : State) (sd : Addr), Stand p l e room_1 s m #[(.int q1)] below meth c T1 [] 0 0 → T1.heap = h0 → OGo p e below s room_1 (OLawQ n0) (T1.setTop (mkF m 39 #[.val (.int q1), .val (.int (0 : Int32)), .val (.int (1 : Int32)), .unset, .unset, .unset, .unset, .unset, .unset, .unset, .unset] [(.ref sd)])) := by
    intro T1 sd X1 e1
    show OGo p e below s room_1 (OLawQ n0) (T1.setTop (mkF m 39 #[.val (.int q1), .val (.int (0 : Int32)), .val (.int (1 : Int32)), .unset, .unset, .unset, .unset, .unset, .unset, .unset, .unset] [(.ref sd)]))
    refine own_st (fun t k => XS.astoreN X1.here hx rfl (hb hby at_39) rfl rfl (l' := #[.val (.int q1), .val (.int (0 : Int32)), .val (.int (1 : Int32)), .val (.ref sd), .unset, .unset, .unset, .unset, .unset, .unset, .unset]) rfl k) ?_
    show OGo p e below s room_1 (OLawQ n0) (T1.setTop (mkF m 40 #[.val (.int q1), .val (.int (0 : Int32)), .val (.int (1 : Int32)), .val (.ref sd), .unset, .unset, .unset, .unset, .unset, .unset, .unset] []))
    obtain ⟨T66, hp66, X66, e66, Ex66, Aa66, Dd66, -, st66⟩ := newO X1 hx hZ hown (hw _ (List.mem_of_getElem? (i := 3) rfl)) (hw _ (List.mem_of_getElem? (i := 4) rfl)) (hw _ (List.mem_of_getElem? (i := 5) rfl)) e1 (g := (mkF m 40 #[.val (.int q1), .val (.int (0 : Int32)), .val (.int (1 : Int32)), .val (.ref sd), .unset, .unset, .unset, .unset, .unset, .unset, .unset] [])) rfl (hb hby at_40) (by decide) (by decide)
    obtain ⟨la, gs66⟩ : ∃ z, z = h0.size := ⟨_, rfl⟩
    rw [← gs66] at Aa66 Dd66 st66
    have old_la : n0 ≤ la := Nat.le_trans Z0 (Nat.le_of_eq gs66.symm)
    have Z0 := Nat.le_trans Z0 Ex66.1
    have E_la := Aa66
    have F_first_la : Fld Z hp66 la "com/example/kurslot/kurslot/book/PriceLevel" "first" "I" (.int (0 : Int32)) := Dd66 (Or.inl (hw _ (List.mem_of_getElem? (i := 14) rfl))) (ty := .int) (by decide)
    have F_last_la : Fld Z hp66 la "com/example/kurslot/kurslot/book/PriceLevel" "last" "I" (.int (0 : Int32)) := Dd66 (Or.inl (hw _ (List.mem_of_getElem? (i := 16) rfl))) (ty := .int) (by decide)
    have F_book_la : Fld Z hp66 la "com/example/kurslot/kurslot/book/PriceLevel" "book" "Lcom/example/kurslot/kurslot/book/OrderBook;" .null := Dd66 (Or.inr (hw _ (List.mem_of_getElem? (i := 18) rfl))) (ty := (.object "com/example/kurslot/kurslot/book/OrderBook")) (by decide)
    have F_side_la : Fld Z hp66 la "com/example/kurslot/kurslot/book/PriceLevel" "side" "Lcom/example/kurslot/kurslot/book/Side;" .null := Dd66 (Or.inr (hw _ (List.mem_of_getElem? (i := 20) rfl))) (ty := (.object "com/example/kurslot/kurslot/book/Side")) (by decide)
    have F_price_la : Fld Z hp66 la "com/example/kurslot/kurslot/book/PriceLevel" "price" "J" (.long (0 : Int64)) := Dd66 (Or.inr (hw _ (List.mem_of_getElem? (i := 22) rfl))) (ty := .long) (by decide)
    have F_number_la : Fld Z hp66 la "com/example/kurslot/kurslot/book/PriceLevel" "number" "I" (.int (0 : Int32)) := Dd66 (Or.inr (hw _ (List.mem_of_getElem? (i := 24) rfl))) (ty := .int) (by decide)
    have F_better_la : Fld Z hp66 la "com/example/kurslot/kurslot/book/PriceLevel" "better" "Lcom/example/kurslot/kurslot/book/PriceLevel;" .null := Dd66 (Or.inl (hw _ (List.mem_of_getElem? (i := 32) rfl))) (ty := (.object "com/example/kurslot/kurslot/book/PriceLevel")) (by decide)
    have F_worse_la : Fld Z hp66 la "com/example/kurslot/kurslot/book/PriceLevel" "worse" "Lcom/example/kurslot/kurslot/book/PriceLevel;" .null := Dd66 (Or.inl (hw _ (List.mem_of_getElem? (i := 34) rfl))) (ty := (.object "com/example/kurslot/kurslot/book/PriceLevel")) (by decide)
    refine own_st st66 ?_
    show OGo p e below s room_1 (OLawQ n0) (T66.setTop (mkF m 43 #[.val (.int q1), .val (.int (0 : Int32)), .val (.int (1 : Int32)), .val (.ref sd), .unset, .unset, .unset, .unset, .unset, .unset, .unset] [(.ref la)]))
    refine own_st (fun t k => XS.dup X66.here hx rfl (hb hby at_43) rfl rfl k) ?_
    show OGo p e below s room_1 (OLawQ n0) (T66.setTop (mkF m 44 #[.val (.int q1), .val (.int (0 : Int32)), .val (.int (1 : Int32)), .val (.ref sd), .unset, .unset, .unset, .unset, .unset, .unset, .unset] [(.ref la), (.ref la)]))
    refine own_st (fun t k => XS.aconstNull X66.here hx rfl (hb hby at_44) k) ?_
    show OGo p e below s room_1 (OLawQ n0) (T66.setTop (mkF m 45 #[.val (.int q1), .val (.int (0 : Int32)), .val (.int (1 : Int32)), .val (.ref sd), .unset, .unset, .unset, .unset, .unset, .unset, .unset] [.null, (.ref la), (.ref la)]))
    refine own_st (fun t k => XS.aloadN X66.here hx rfl (hb hby at_45) rfl rfl k) ?_
    show OGo p e below s room_1 (OLawQ n0) (T66.setTop (mkF m 46 #[.val (.int q1), .val (.int (0 : Int32)), .val (.int (1 : Int32)), .val (.ref sd), .unset, .unset, .unset, .unset, .unset, .unset, .unset] [(.ref sd), .null, (.ref la), (.ref la)]))
    refine own_st (X66.ldc2Long hx hown (mvT hZ (hw _ (List.mem_of_getElem? (i := 6) rfl))) (g := (mkF m 46 #[.val (.int q1), .val (.int (0 : Int32)), .val (.int (1 : Int32)), .val (.ref sd), .unset, .unset, .unset, .unset, .unset, .unset, .unset] [(.ref sd), .null, (.ref la), (.ref la)])) rfl (hb hby at_46)) ?_
    show OGo p e below s room_1 (OLawQ n0) (T66.setTop (mkF m 49 #[.val (.int q1), .val (.int (0 : Int32)), .val (.int (1 : Int32)), .val (.ref sd), .unset, .unset, .unset, .unset, .unset, .unset, .unset] [(.long (3 : Int64)), (.ref sd), .null, (.ref la), (.ref la)]))
    refine own_st (fun t k => XS.iconst X66.here hx rfl (hb hby at_49) k) ?_
    show OGo p e below s room_1 (OLawQ n0) (T66.setTop (mkF m 50 #[.val (.int q1), .val (.int (0 : Int32)), .val (.int (1 : Int32)), .val (.ref sd), .unset, .unset, .unset, .unset, .unset, .unset, .unset] [(.int (0 : Int32)), (.long (3 : Int64)), (.ref sd), .null, (.ref la), (.ref la)]))
    obtain ⟨_, T67, Lc67, X67, hQ67, st67⟩ := own_callI X66 hx hZ (y := (⟨"com/example/kurslot/kurslot/book/PriceLevel", "<init>", "(Lcom/example/kurslot/kurslot/book/OrderBook;Lcom/example/kurslot/kurslot/book/Side;JI)V"⟩ : MethodName)) (W := 1) rfl hown (hw _ (List.mem_of_getElem? (i := 7) rfl)) (hw _ (List.mem_of_getElem? (i := 8) rfl)) (hw _ (List.mem_of_getElem? (i := 9) rfl)) (hw _ (List.mem_of_getElem? (i := 5) rfl)) (by decide) (rm1 l Z a0 hw la sd (3 : Int64) (0 : Int32) hp66 n0 Z0 old_la E_la F_better_la F_worse_la F_first_la F_last_la F_book_la F_side_la F_price_la F_number_la) (by decide) (by decide) (a := la) (g := (mkF m 50 #[.val (.int q1), .val (.int (0 : Int32)), .val (.int (1 : Int32)), .val (.ref sd), .unset, .unset, .unset, .unset, .unset, .unset, .unset] [(.int (0 : Int32)), (.long (3 : Int64)), (.ref sd), .null, (.ref la), (.ref la)])) rfl (by rw [hml]; rfl) (argsL := [.null, (.ref sd), (.long (3 : Int64)), (.int (0 : Int32))]) (rest := [(.ref la)]) (lenOf pd_0 rfl) rfl (by show 2 * 0 + _ ≤ _; exact Nat.le_of_eq rfl) (hb hby at_50) rfl e66 (by decide) (by decide)
    obtain ⟨rfl, Nq67, Kq67, q67_0, q67_1, q67_2⟩ := hQ67
    have Z0 := Nat.le_trans Z0 Kq67.1
    have Nr67 := Fr.app N0 Nq67
    have E_la := q67_0
    have F_better_la := q67_1
    have F_worse_la := q67_2
    refine own_st st67 ?_
    show OGo p e below s room_1 (OLawQ n0) (T67.setTop (mkF m 53 #[.val (.int q1), .val (.int (0 : Int32)), .val (.int (1 : Int32)), .val (.ref sd), .unset, .unset, .unset, .unset, .unset, .unset, .unset] [(.ref la)]))
    refine own_st (fun t k => XS.astore X67.here hx rfl (hb hby at_53) rfl rfl (l' := #[.val (.int q1), .val (.int (0 : Int32)), .val (.int (1 : Int32)), .val (.ref sd), .val (.ref la), .unset, .unset, .unset, .unset, .unset, .unset]) rfl k) ?_
    show OGo p e below s room_1 (OLawQ n0) (T67.setTop (mkF m 55 #[.val (.int q1), .val (.int (0 : Int32)), .val (.int (1 : Int32)), .val (.ref sd), .val (.ref la), .unset, .unset, .unset, .unset, .unset, .unset] []))
    obtain ⟨T68, hp68, X68, e68, Ex68, Aa68, Dd68, -, st68⟩ := newO X67 hx hZ hown (hw _ (List.mem_of_getElem? (i := 3) rfl)) (hw _ (List.mem_of_getElem? (i := 4) rfl)) (hw _ (List.mem_of_getElem? (i := 5) rfl)) rfl (g := (mkF m 55 #[.val (.int q1), .val (.int (0 : Int32)), .val (.int (1 : Int32)), .val (.ref sd), .val (.ref la), .unset, .unset, .unset, .unset, .unset, .unset] [])) rfl (hb hby at_55) (by decide) (by decide)
    obtain ⟨lb, gs68⟩ : ∃ z, z = T67.heap.size := ⟨_, rfl⟩
    rw [← gs68] at Aa68 Dd68 st68
    have ne_la_lb : la ≠ lb := Nat.ne_of_lt (Nat.lt_of_lt_of_le E_la.lt (Nat.le_of_eq gs68.symm))
    have old_lb : n0 ≤ lb := Nat.le_trans Z0 (Nat.le_of_eq gs68.symm)
    have Z0 := Nat.le_trans Z0 Ex68.1
    have E_la := E_la.ext Ex68
    have F_better_la := F_better_la.ext Ex68
    have F_worse_la := F_worse_la.ext Ex68
    have E_lb := Aa68
    have F_first_lb : Fld Z hp68 lb "com/example/kurslot/kurslot/book/PriceLevel" "first" "I" (.int (0 : Int32)) := Dd68 (Or.inl (hw _ (List.mem_of_getElem? (i := 14) rfl))) (ty := .int) (by decide)
    have F_last_lb : Fld Z hp68 lb "com/example/kurslot/kurslot/book/PriceLevel" "last" "I" (.int (0 : Int32)) := Dd68 (Or.inl (hw _ (List.mem_of_getElem? (i := 16) rfl))) (ty := .int) (by decide)
    have F_book_lb : Fld Z hp68 lb "com/example/kurslot/kurslot/book/PriceLevel" "book" "Lcom/example/kurslot/kurslot/book/OrderBook;" .null := Dd68 (Or.inr (hw _ (List.mem_of_getElem? (i := 18) rfl))) (ty := (.object "com/example/kurslot/kurslot/book/OrderBook")) (by decide)
    have F_side_lb : Fld Z hp68 lb "com/example/kurslot/kurslot/book/PriceLevel" "side" "Lcom/example/kurslot/kurslot/book/Side;" .null := Dd68 (Or.inr (hw _ (List.mem_of_getElem? (i := 20) rfl))) (ty := (.object "com/example/kurslot/kurslot/book/Side")) (by decide)
    have F_price_lb : Fld Z hp68 lb "com/example/kurslot/kurslot/book/PriceLevel" "price" "J" (.long (0 : Int64)) := Dd68 (Or.inr (hw _ (List.mem_of_getElem? (i := 22) rfl))) (ty := .long) (by decide)
    have F_number_lb : Fld Z hp68 lb "com/example/kurslot/kurslot/book/PriceLevel" "number" "I" (.int (0 : Int32)) := Dd68 (Or.inr (hw _ (List.mem_of_getElem? (i := 24) rfl))) (ty := .int) (by decide)
    have F_better_lb : Fld Z hp68 lb "com/example/kurslot/kurslot/book/PriceLevel" "better" "Lcom/example/kurslot/kurslot/book/PriceLevel;" .null := Dd68 (Or.inl (hw _ (List.mem_of_getElem? (i := 32) rfl))) (ty := (.object "com/example/kurslot/kurslot/book/PriceLevel")) (by decide)
    have F_worse_lb : Fld Z hp68 lb "com/example/kurslot/kurslot/book/PriceLevel" "worse" "Lcom/example/kurslot/kurslot/book/PriceLevel;" .null := Dd68 (Or.inl (hw _ (List.mem_of_getElem? (i := 34) rfl))) (ty := (.object "com/example/kurslot/kurslot/book/PriceLevel")) (by decide)
    refine own_st st68 ?_
    show OGo p e below s room_1 (OLawQ n0) (T68.setTop (mkF m 58 #[.val (.int q1), .val (.int (0 : Int32)), .val (.int (1 : Int32)), .val (.ref sd), .val (.ref la), .unset, .unset, .unset, .unset, .unset, .unset] [(.ref lb)]))
    refine own_st (fun t k => XS.dup X68.here hx rfl (hb hby at_58) rfl rfl k) ?_
    show OGo p e below s room_1 (OLawQ n0) (T68.setTop (mkF m 59 #[.val (.int q1), .val (.int (0 : Int32)), .val (.int (1 : Int32)), .val (.ref sd), .val (.ref la), .unset, .unset, .unset, .unset, .unset, .unset] [(.ref lb), (.ref lb)]))
    refine own_st (fun t k => XS.aconstNull X68.here hx rfl (hb hby at_59) k) ?_
    show OGo p e below s room_1 (OLawQ n0) (T68.setTop (mkF m 60 #[.val (.int q1), .val (.int (0 : Int32)), .val (.int (1 : Int32)), .val (.ref sd), .val (.ref la), .unset, .unset, .unset, .unset, .unset, .unset] [.null, (.ref lb), (.ref lb)]))
    refine own_st (fun t k => XS.aloadN X68.here hx rfl (hb hby at_60) rfl rfl k) ?_
    show OGo p e below s room_1 (OLawQ n0) (T68.setTop (mkF m 61 #[.val (.int q1), .val (.int (0 : Int32)), .val (.int (1 : Int32)), .val (.ref sd), .val (.ref la), .unset, .unset, .unset, .unset, .unset, .unset] [(.ref sd), .null, (.ref lb), (.ref lb)]))
    refine own_st (X68.ldc2Long hx hown (mvT hZ (hw _ (List.mem_of_getElem? (i := 25) rfl))) (g := (mkF m 61 #[.val (.int q1), .val (.int (0 : Int32)), .val (.int (1 : Int32)), .val (.ref sd), .val (.ref la), .unset, .unset, .unset, .unset, .unset, .unset] [(.ref sd), .null, (.ref lb), (.ref lb)])) rfl (hb hby at_61)) ?_
    show OGo p e below s room_1 (OLawQ n0) (T68.setTop (mkF m 64 #[.val (.int q1), .val (.int (0 : Int32)), .val (.int (1 : Int32)), .val (.ref sd), .val (.ref la), .unset, .unset, .unset, .unset, .unset, .unset] [(.long (2 : Int64)), (.ref sd), .null, (.ref lb), (.ref lb)]))
    refine own_st (fun t k => XS.iconst X68.here hx rfl (hb hby at_64) k) ?_
    show OGo p e below s room_1 (OLawQ n0) (T68.setTop (mkF m 65 #[.val (.int q1), .val (.int (0 : Int32)), .val (.int (1 : Int32)), .val (.ref sd), .val (.ref la), .unset, .unset, .unset, .unset, .unset, .unset] [(.int (1 : Int32)), (.long (2 : Int64)), (.ref sd), .null, (.ref lb), (.ref lb)]))
    obtain ⟨_, T69, Lc69, X69, hQ69, st69⟩ := own_callI X68 hx hZ (y := (⟨"com/example/kurslot/kurslot/book/PriceLevel", "<init>", "(Lcom/example/kurslot/kurslot/book/OrderBook;Lcom/example/kurslot/kurslot/book/Side;JI)V"⟩ : MethodName)) (W := 1) rfl hown (hw _ (List.mem_of_getElem? (i := 7) rfl)) (hw _ (List.mem_of_getElem? (i := 8) rfl)) (hw _ (List.mem_of_getElem? (i := 9) rfl)) (hw _ (List.mem_of_getElem? (i := 5) rfl)) (by decide) (rm1 l Z a0 hw lb sd (2 : Int64) (1 : Int32) hp68 n0 Z0 old_lb E_lb F_better_lb F_worse_lb F_first_lb F_last_lb F_book_lb F_side_lb F_price_lb F_number_lb) (by decide) (by decide) (a := lb) (g := (mkF m 65 #[.val (.int q1), .val (.int (0 : Int32)), .val (.int (1 : Int32)), .val (.ref sd), .val (.ref la), .unset, .unset, .unset, .unset, .unset, .unset] [(.int (1 : Int32)), (.long (2 : Int64)), (.ref sd), .null, (.ref lb), (.ref lb)])) rfl (by rw [hml]; rfl) (argsL := [.null, (.ref sd), (.long (2 : Int64)), (.int (1 : Int32))]) (rest := [(.ref lb)]) (lenOf pd_0 rfl) rfl (by show 2 * 0 + _ ≤ _; exact Nat.le_of_eq rfl) (hb hby at_65) rfl e68 (by decide) (by decide)
    obtain ⟨rfl, Nq69, Kq69, q69_0, q69_1, q69_2⟩ := hQ69
    have Z0 := Nat.le_trans Z0 Kq69.1
    have E_la := E_la.keep Kq69
    have F_better_la := F_better_la.keep Kq69 (ninS ne_la_lb nin0)
    have F_worse_la := F_worse_la.keep Kq69 (ninS ne_la_lb nin0)
    have Nr69 := Fr.app Nr67 Nq69
    have E_lb := q69_0
    have F_better_lb := q69_1
    have F_worse_lb := q69_2
    refine own_st st69 ?_
    show OGo p e below s room_1 (OLawQ n0) (T69.setTop (mkF m 68 #[.val (.int q1), .val (.int (0 : Int32)), .val (.int (1 : Int32)), .val (.ref sd), .val (.ref la), .unset, .unset, .unset, .unset, .unset, .unset] [(.ref lb)]))
    refine own_st (fun t k => XS.astore X69.here hx rfl (hb hby at_68) rfl rfl (l' := #[.val (.int q1), .val (.int (0 : Int32)), .val (.int (1 : Int32)), .val (.ref sd), .val (.ref la), .val (.ref lb), .unset, .unset, .unset, .unset, .unset]) rfl k) ?_
    show OGo p e below s room_1 (OLawQ n0) (T69.setTop (mkF m 70 #[.val (.int q1), .val (.int (0 : Int32)), .val (.int (1 : Int32)), .val (.ref sd), .val (.ref la), .val (.ref lb), .unset, .unset, .unset, .unset, .unset] []))
    obtain ⟨T70, hp70, X70, e70, Ex70, Aa70, Dd70, -, st70⟩ := newO X69 hx hZ hown (hw _ (List.mem_of_getElem? (i := 3) rfl)) (hw _ (List.mem_of_getElem? (i := 4) rfl)) (hw _ (List.mem_of_getElem? (i := 5) rfl)) rfl (g := (mkF m 70 #[.val (.int q1), .val (.int (0 : Int32)), .val (.int (1 : Int32)), .val (.ref sd), .val (.ref la), .val (.ref lb), .unset, .unset, .unset, .unset, .unset] [])) rfl (hb hby at_70) (by decide) (by decide)
    obtain ⟨lc, gs70⟩ : ∃ z, z = T69.heap.size := ⟨_, rfl⟩
    rw [← gs70] at Aa70 Dd70 st70
    have ne_la_lc : la ≠ lc := Nat.ne_of_lt (Nat.lt_of_lt_of_le E_la.lt (Nat.le_of_eq gs70.symm))
    have ne_lb_lc : lb ≠ lc := Nat.ne_of_lt (Nat.lt_of_lt_of_le E_lb.lt (Nat.le_of_eq gs70.symm))
    have old_lc : n0 ≤ lc := Nat.le_trans Z0 (Nat.le_of_eq gs70.symm)
    have Z0 := Nat.le_trans Z0 Ex70.1
    have E_la := E_la.ext Ex70
    have F_better_la := F_better_la.ext Ex70
    have F_worse_la := F_worse_la.ext Ex70
    have E_lb := E_lb.ext Ex70
    have F_better_lb := F_better_lb.ext Ex70
    have F_worse_lb := F_worse_lb.ext Ex70
    have E_lc := Aa70
    have F_first_lc : Fld Z hp70 lc "com/example/kurslot/kurslot/book/PriceLevel" "first" "I" (.int (0 : Int32)) := Dd70 (Or.inl (hw _ (List.mem_of_getElem? (i := 14) rfl))) (ty := .int) (by decide)
    have F_last_lc : Fld Z hp70 lc "com/example/kurslot/kurslot/book/PriceLevel" "last" "I" (.int (0 : Int32)) := Dd70 (Or.inl (hw _ (List.mem_of_getElem? (i := 16) rfl))) (ty := .int) (by decide)
    have F_book_lc : Fld Z hp70 lc "com/example/kurslot/kurslot/book/PriceLevel" "book" "Lcom/example/kurslot/kurslot/book/OrderBook;" .null := Dd70 (Or.inr (hw _ (List.mem_of_getElem? (i := 18) rfl))) (ty := (.object "com/example/kurslot/kurslot/book/OrderBook")) (by decide)
    have F_side_lc : Fld Z hp70 lc "com/example/kurslot/kurslot/book/PriceLevel" "side" "Lcom/example/kurslot/kurslot/book/Side;" .null := Dd70 (Or.inr (hw _ (List.mem_of_getElem? (i := 20) rfl))) (ty := (.object "com/example/kurslot/kurslot/book/Side")) (by decide)
    have F_price_lc : Fld Z hp70 lc "com/example/kurslot/kurslot/book/PriceLevel" "price" "J" (.long (0 : Int64)) := Dd70 (Or.inr (hw _ (List.mem_of_getElem? (i := 22) rfl))) (ty := .long) (by decide)
    have F_number_lc : Fld Z hp70 lc "com/example/kurslot/kurslot/book/PriceLevel" "number" "I" (.int (0 : Int32)) := Dd70 (Or.inr (hw _ (List.mem_of_getElem? (i := 24) rfl))) (ty := .int) (by decide)
    have F_better_lc : Fld Z hp70 lc "com/example/kurslot/kurslot/book/PriceLevel" "better" "Lcom/example/kurslot/kurslot/book/PriceLevel;" .null := Dd70 (Or.inl (hw _ (List.mem_of_getElem? (i := 32) rfl))) (ty := (.object "com/example/kurslot/kurslot/book/PriceLevel")) (by decide)
    have F_worse_lc : Fld Z hp70 lc "com/example/kurslot/kurslot/book/PriceLevel" "worse" "Lcom/example/kurslot/kurslot/book/PriceLevel;" .null := Dd70 (Or.inl (hw _ (List.mem_of_getElem? (i := 34) rfl))) (ty := (.object "com/example/kurslot/kurslot/book/PriceLevel")) (by decide)
    refine own_st st70 ?_
    show OGo p e below s room_1 (OLawQ n0) (T70.setTop (mkF m 73 #[.val (.int q1), .val (.int (0 : Int32)), .val (.int (1 : Int32)), .val (.ref sd), .val (.ref la), .val (.ref lb), .unset, .unset, .unset, .unset, .unset] [(.ref lc)]))
    refine own_st (fun t k => XS.dup X70.here hx rfl (hb hby at_73) rfl rfl k) ?_
    show OGo p e below s room_1 (OLawQ n0) (T70.setTop (mkF m 74 #[.val (.int q1), .val (.int (0 : Int32)), .val (.int (1 : Int32)), .val (.ref sd), .val (.ref la), .val (.ref lb), .unset, .unset, .unset, .unset, .unset] [(.ref lc), (.ref lc)]))
    refine own_st (fun t k => XS.aconstNull X70.here hx rfl (hb hby at_74) k) ?_
    show OGo p e below s room_1 (OLawQ n0) (T70.setTop (mkF m 75 #[.val (.int q1), .val (.int (0 : Int32)), .val (.int (1 : Int32)), .val (.ref sd), .val (.ref la), .val (.ref lb), .unset, .unset, .unset, .unset, .unset] [.null, (.ref lc), (.ref lc)]))
    refine own_st (fun t k => XS.aloadN X70.here hx rfl (hb hby at_75) rfl rfl k) ?_
    show OGo p e below s room_1 (OLawQ n0) (T70.setTop (mkF m 76 #[.val (.int q1), .val (.int (0 : Int32)), .val (.int (1 : Int32)), .val (.ref sd), .val (.ref la), .val (.ref lb), .unset, .unset, .unset, .unset, .unset] [(.ref sd), .null, (.ref lc), (.ref lc)]))
    refine own_st (fun t k => XS.lconst X70.here hx rfl (hb hby at_76) k) ?_
    show OGo p e below s room_1 (OLawQ n0) (T70.setTop (mkF m 77 #[.val (.int q1), .val (.int (0 : Int32)), .val (.int (1 : Int32)), .val (.ref sd), .val (.ref la), .val (.ref lb), .unset, .unset, .unset, .unset, .unset] [(.long (1 : Int64)), (.ref sd), .null, (.ref lc), (.ref lc)]))
    refine own_st (fun t k => XS.iconst X70.here hx rfl (hb hby at_77) k) ?_
    show OGo p e below s room_1 (OLawQ n0) (T70.setTop (mkF m 78 #[.val (.int q1), .val (.int (0 : Int32)), .val (.int (1 : Int32)), .val (.ref sd), .val (.ref la), .val (.ref lb), .unset, .unset, .unset, .unset, .unset] [(.int (2 : Int32)), (.long (1 : Int64)), (.ref sd), .null, (.ref lc), (.ref lc)]))
    obtain ⟨_, T71, Lc71, X71, hQ71, st71⟩ := own_callI X70 hx hZ (y := (⟨"com/example/kurslot/kurslot/book/PriceLevel", "<init>", "(Lcom/example/kurslot/kurslot/book/OrderBook;Lcom/example/kurslot/kurslot/book/Side;JI)V"⟩ : MethodName)) (W := 1) rfl hown (hw _ (List.mem_of_getElem? (i := 7) rfl)) (hw _ (List.mem_of_getElem? (i := 8) rfl)) (hw _ (List.mem_of_getElem? (i := 9) rfl)) (hw _ (List.mem_of_getElem? (i := 5) rfl)) (by decide) (rm1 l Z a0 hw lc sd (1 : Int64) (2 : Int32) hp70 n0 Z0 old_lc E_lc F_better_lc F_worse_lc F_first_lc F_last_lc F_book_lc F_side_lc F_price_lc F_number_lc) (by decide) (by decide) (a := lc) (g := (mkF m 78 #[.val (.int q1), .val (.int (0 : Int32)), .val (.int (1 : Int32)), .val (.ref sd), .val (.ref la), .val (.ref lb), .unset, .unset, .unset, .unset, .unset] [(.int (2 : Int32)), (.long (1 : Int64)), (.ref sd), .null, (.ref lc), (.ref lc)])) rfl (by rw [hml]; rfl) (argsL := [.null, (.ref sd), (.long (1 : Int64)), (.int (2 : Int32))]) (rest := [(.ref lc)]) (lenOf pd_0 rfl) rfl (by show 2 * 0 + _ ≤ _; exact Nat.le_of_eq rfl) (hb hby at_78) rfl e70 (by decide) (by decide)
    obtain ⟨rfl, Nq71, Kq71, q71_0, q71_1, q71_2⟩ := hQ71
    have Z0 := Nat.le_trans Z0 Kq71.1
    have E_la := E_la.keep Kq71
    have F_better_la := F_better_la.keep Kq71 (ninS ne_la_lc nin0)
    have F_worse_la := F_worse_la.keep Kq71 (ninS ne_la_lc nin0)
    have E_lb := E_lb.keep Kq71
    have F_better_lb := F_better_lb.keep Kq71 (ninS ne_lb_lc nin0)
    have F_worse_lb := F_worse_lb.keep Kq71 (ninS ne_lb_lc nin0)
    have Nr71 := Fr.app Nr69 Nq71
    have E_lc := q71_0
    have F_better_lc := q71_1
    have F_worse_lc := q71_2
    refine own_st st71 ?_
    show OGo p e below s room_1 (OLawQ n0) (T71.setTop (mkF m 81 #[.val (.int q1), .val (.int (0 : Int32)), .val (.int (1 : Int32)), .val (.ref sd), .val (.ref la), .val (.ref lb), .unset, .unset, .unset, .unset, .unset] [(.ref lc)]))
    refine own_st (fun t k => XS.astore X71.here hx rfl (hb hby at_81) rfl rfl (l' := #[.val (.int q1), .val (.int (0 : Int32)), .val (.int (1 : Int32)), .val (.ref sd), .val (.ref la), .val (.ref lb), .val (.ref lc), .unset, .unset, .unset, .unset]) rfl k) ?_
    show OGo p e below s room_1 (OLawQ n0) (T71.setTop (mkF m 83 #[.val (.int q1), .val (.int (0 : Int32)), .val (.int (1 : Int32)), .val (.ref sd), .val (.ref la), .val (.ref lb), .val (.ref lc), .unset, .unset, .unset, .unset] []))
    obtain ⟨T72, hp72, X72, e72, Ex72, Aa72, Dd72, -, st72⟩ := newO X71 hx hZ hown (hw _ (List.mem_of_getElem? (i := 3) rfl)) (hw _ (List.mem_of_getElem? (i := 4) rfl)) (hw _ (List.mem_of_getElem? (i := 5) rfl)) rfl (g := (mkF m 83 #[.val (.int q1), .val (.int (0 : Int32)), .val (.int (1 : Int32)), .val (.ref sd), .val (.ref la), .val (.ref lb), .val (.ref lc), .unset, .unset, .unset, .unset] [])) rfl (hb hby at_83) (by decide) (by decide)
    obtain ⟨ld, gs72⟩ : ∃ z, z = T71.heap.size := ⟨_, rfl⟩
    rw [← gs72] at Aa72 Dd72 st72
    have ne_la_ld : la ≠ ld := Nat.ne_of_lt (Nat.lt_of_lt_of_le E_la.lt (Nat.le_of_eq gs72.symm))
    have ne_lb_ld : lb ≠ ld := Nat.ne_of_lt (Nat.lt_of_lt_of_le E_lb.lt (Nat.le_of_eq gs72.symm))
    have ne_lc_ld : lc ≠ ld := Nat.ne_of_lt (Nat.lt_of_lt_of_le E_lc.lt (Nat.le_of_eq gs72.symm))
    have old_ld : n0 ≤ ld := Nat.le_trans Z0 (Nat.le_of_eq gs72.symm)
    have Z0 := Nat.le_trans Z0 Ex72.1
    have E_la := E_la.ext Ex72
    have F_better_la := F_better_la.ext Ex72
    have F_worse_la := F_worse_la.ext Ex72
    have E_lb := E_lb.ext Ex72
    have F_better_lb := F_better_lb.ext Ex72
    have F_worse_lb := F_worse_lb.ext Ex72
    have E_lc := E_lc.ext Ex72
    have F_better_lc := F_better_lc.ext Ex72
    have F_worse_lc := F_worse_lc.ext Ex72
    have E_ld := Aa72
    have F_first_ld : Fld Z hp72 ld "com/example/kurslot/kurslot/book/PriceLevel" "first" "I" (.int (0 : Int32)) := Dd72 (Or.inl (hw _ (List.mem_of_getElem? (i := 14) rfl))) (ty := .int) (by decide)
    have F_last_ld : Fld Z hp72 ld "com/example/kurslot/kurslot/book/PriceLevel" "last" "I" (.int (0 : Int32)) := Dd72 (Or.inl (hw _ (List.mem_of_getElem? (i := 16) rfl))) (ty := .int) (by decide)
    have F_book_ld : Fld Z hp72 ld "com/example/kurslot/kurslot/book/PriceLevel" "book" "Lcom/example/kurslot/kurslot/book/OrderBook;" .null := Dd72 (Or.inr (hw _ (List.mem_of_getElem? (i := 18) rfl))) (ty := (.object "com/example/kurslot/kurslot/book/OrderBook")) (by decide)
    have F_side_ld : Fld Z hp72 ld "com/example/kurslot/kurslot/book/PriceLevel" "side" "Lcom/example/kurslot/kurslot/book/Side;" .null := Dd72 (Or.inr (hw _ (List.mem_of_getElem? (i := 20) rfl))) (ty := (.object "com/example/kurslot/kurslot/book/Side")) (by decide)
    have F_price_ld : Fld Z hp72 ld "com/example/kurslot/kurslot/book/PriceLevel" "price" "J" (.long (0 : Int64)) := Dd72 (Or.inr (hw _ (List.mem_of_getElem? (i := 22) rfl))) (ty := .long) (by decide)
    have F_number_ld : Fld Z hp72 ld "com/example/kurslot/kurslot/book/PriceLevel" "number" "I" (.int (0 : Int32)) := Dd72 (Or.inr (hw _ (List.mem_of_getElem? (i := 24) rfl))) (ty := .int) (by decide)
    have F_better_ld : Fld Z hp72 ld "com/example/kurslot/kurslot/book/PriceLevel" "better" "Lcom/example/kurslot/kurslot/book/PriceLevel;" .null := Dd72 (Or.inl (hw _ (List.mem_of_getElem? (i := 32) rfl))) (ty := (.object "com/example/kurslot/kurslot/book/PriceLevel")) (by decide)
    have F_worse_ld : Fld Z hp72 ld "com/example/kurslot/kurslot/book/PriceLevel" "worse" "Lcom/example/kurslot/kurslot/book/PriceLevel;" .null := Dd72 (Or.inl (hw _ (List.mem_of_getElem? (i := 34) rfl))) (ty := (.object "com/example/kurslot/kurslot/book/PriceLevel")) (by decide)
    refine own_st st72 ?_
    show OGo p e below s room_1 (OLawQ n0) (T72.setTop (mkF m 86 #[.val (.int q1), .val (.int (0 : Int32)), .val (.int (1 : Int32)), .val (.ref sd), .val (.ref la), .val (.ref lb), .val (.ref lc), .unset, .unset, .unset, .unset] [(.ref ld)]))
    refine own_st (fun t k => XS.dup X72.here hx rfl (hb hby at_86) rfl rfl k) ?_
    show OGo p e below s room_1 (OLawQ n0) (T72.setTop (mkF m 87 #[.val (.int q1), .val (.int (0 : Int32)), .val (.int (1 : Int32)), .val (.ref sd), .val (.ref la), .val (.ref lb), .val (.ref lc), .unset, .unset, .unset, .unset] [(.ref ld), (.ref ld)]))
    refine own_st (fun t k => XS.aconstNull X72.here hx rfl (hb hby at_87) k) ?_
    show OGo p e below s room_1 (OLawQ n0) (T72.setTop (mkF m 88 #[.val (.int q1), .val (.int (0 : Int32)), .val (.int (1 : Int32)), .val (.ref sd), .val (.ref la), .val (.ref lb), .val (.ref lc), .unset, .unset, .unset, .unset] [.null, (.ref ld), (.ref ld)]))
    refine own_st (fun t k => XS.aloadN X72.here hx rfl (hb hby at_88) rfl rfl k) ?_
    show OGo p e below s room_1 (OLawQ n0) (T72.setTop (mkF m 89 #[.val (.int q1), .val (.int (0 : Int32)), .val (.int (1 : Int32)), .val (.ref sd), .val (.ref la), .val (.ref lb), .val (.ref lc), .unset, .unset, .unset, .unset] [(.ref sd), .null, (.ref ld), (.ref ld)]))
    refine own_st (fun t k => XS.lconst X72.here hx rfl (hb hby at_89) k) ?_
    show OGo p e below s room_1 (OLawQ n0) (T72.setTop (mkF m 90 #[.val (.int q1), .val (.int (0 : Int32)), .val (.int (1 : Int32)), .val (.ref sd), .val (.ref la), .val (.ref lb), .val (.ref lc), .unset, .unset, .unset, .unset] [(.long (0 : Int64)), (.ref sd), .null, (.ref ld), (.ref ld)]))
    refine own_st (fun t k => XS.iconst X72.here hx rfl (hb hby at_90) k) ?_
    show OGo p e below s room_1 (OLawQ n0) (T72.setTop (mkF m 91 #[.val (.int q1), .val (.int (0 : Int32)), .val (.int (1 : Int32)), .val (.ref sd), .val (.ref la), .val (.ref lb), .val (.ref lc), .unset, .unset, .unset, .unset] [(.int (3 : Int32)), (.long (0 : Int64)), (.ref sd), .null, (.ref ld), (.ref ld)]))
    obtain ⟨_, T73, Lc73, X73, hQ73, st73⟩ := own_callI X72 hx hZ (y := (⟨"com/example/kurslot/kurslot/book/PriceLevel", "<init>", "(Lcom/example/kurslot/kurslot/book/OrderBook;Lcom/example/kurslot/kurslot/book/Side;JI)V"⟩ : MethodName)) (W := 1) rfl hown (hw _ (List.mem_of_getElem? (i := 7) rfl)) (hw _ (List.mem_of_getElem? (i := 8) rfl)) (hw _ (List.mem_of_getElem? (i := 9) rfl)) (hw _ (List.mem_of_getElem? (i := 5) rfl)) (by decide) (rm1 l Z a0 hw ld sd (0 : Int64) (3 : Int32) hp72 n0 Z0 old_ld E_ld F_better_ld F_worse_ld F_first_ld F_last_ld F_book_ld F_side_ld F_price_ld F_number_ld) (by decide) (by decide) (a := ld) (g := (mkF m 91 #[.val (.int q1), .val (.int (0 : Int32)), .val (.int (1 : Int32)), .val (.ref sd), .val (.ref la), .val (.ref lb), .val (.ref lc), .unset, .unset, .unset, .unset] [(.int (3 : Int32)), (.long (0 : Int64)), (.ref sd), .null, (.ref ld), (.ref ld)])) rfl (by rw [hml]; rfl) (argsL := [.null, (.ref sd), (.long (0 : Int64)), (.int (3 : Int32))]) (rest := [(.ref ld)]) (lenOf pd_0 rfl) rfl (by show 2 * 0 + _ ≤ _; exact Nat.le_of_eq rfl) (hb hby at_91) rfl e72 (by decide) (by decide)
    obtain ⟨rfl, Nq73, Kq73, q73_0, q73_1, q73_2⟩ := hQ73
    have Z0 := Nat.le_trans Z0 Kq73.1
    have E_la := E_la.keep Kq73
    have F_better_la := F_better_la.keep Kq73 (ninS ne_la_ld nin0)
    have F_worse_la := F_worse_la.keep Kq73 (ninS ne_la_ld nin0)
    have E_lb := E_lb.keep Kq73
    have F_better_lb := F_better_lb.keep Kq73 (ninS ne_lb_ld nin0)
    have F_worse_lb := F_worse_lb.keep Kq73 (ninS ne_lb_ld nin0)
    have E_lc := E_lc.keep Kq73
    have F_better_lc := F_better_lc.keep Kq73 (ninS ne_lc_ld nin0)
    have F_worse_lc := F_worse_lc.keep Kq73 (ninS ne_lc_ld nin0)
    have Nr73 := Fr.app Nr71 Nq73
    have E_ld := q73_0
    have F_better_ld := q73_1
    have F_worse_ld := q73_2
    refine own_st st73 ?_
    show OGo p e below s room_1 (OLawQ n0) (T73.setTop (mkF m 94 #[.val (.int q1), .val (.int (0 : Int32)), .val (.int (1 : Int32)), .val (.ref sd), .val (.ref la), .val (.ref lb), .val (.ref lc), .unset, .unset, .unset, .unset] [(.ref ld)]))
    refine own_st (fun t k => XS.astore X73.here hx rfl (hb hby at_94) rfl rfl (l' := #[.val (.int q1), .val (.int (0 : Int32)), .val (.int (1 : Int32)), .val (.ref sd), .val (.ref la), .val (.ref lb), .val (.ref lc), .val (.ref ld), .unset, .unset, .unset]) rfl k) ?_
    show OGo p e below s room_1 (OLawQ n0) (T73.setTop (mkF m 96 #[.val (.int q1), .val (.int (0 : Int32)), .val (.int (1 : Int32)), .val (.ref sd), .val (.ref la), .val (.ref lb), .val (.ref lc), .val (.ref ld), .unset, .unset, .unset] []))
    refine own_st (fun t k => XS.iloadN X73.here hx rfl (hb hby at_96) rfl k) ?_
    show OGo p e below s room_1 (OLawQ n0) (T73.setTop (mkF m 97 #[.val (.int q1), .val (.int (0 : Int32)), .val (.int (1 : Int32)), .val (.ref sd), .val (.ref la), .val (.ref lb), .val (.ref lc), .val (.ref ld), .unset, .unset, .unset] [(.int (0 : Int32))]))
    refine own_st (fun t k => XS.ifYes X73.here hx rfl (pc0 := 97) (pc' := 105) rfl (hb hby at_97) rfl ((if0 _ _).trans (teq ((by decide : (0 : Int32) = (0 : Int32)))).1) (by decide) (by decide) k) ?_
    show OGo p e below s room_1 (OLawQ n0) (T73.setTop (mkF m 105 #[.val (.int q1), .val (.int (0 : Int32)), .val (.int (1 : Int32)), .val (.ref sd), .val (.ref la), .val (.ref lb), .val (.ref lc), .val (.ref ld), .unset, .unset, .unset] []))
    refine own_st (fun t k => XS.aconstNull X73.here hx rfl (hb hby at_105) k) ?_
    show OGo p e below s room_1 (OLawQ n0) (T73.setTop (mkF m 106 #[.val (.int q1), .val (.int (0 : Int32)), .val (.int (1 : Int32)), .val (.ref sd), .val (.ref la), .val (.ref lb), .val (.ref lc), .val (.ref ld), .unset, .unset, .unset] [.null]))
    refine own_st (fun t k => XS.astore X73.here hx rfl (hb hby at_106) rfl rfl (l' := #[.val (.int q1), .val (.int (0 : Int32)), .val (.int (1 : Int32)), .val (.ref sd), .val (.ref la), .val (.ref lb), .val (.ref lc), .val (.ref ld), .val .null, .unset, .unset]) rfl k) ?_
    show OGo p e below s room_1 (OLawQ n0) (T73.setTop (mkF m 108 #[.val (.int q1), .val (.int (0 : Int32)), .val (.int (1 : Int32)), .val (.ref sd), .val (.ref la), .val (.ref lb), .val (.ref lc), .val (.ref ld), .val .null, .unset, .unset] []))
    refine own_st (fun t k => XS.iloadN X73.here hx rfl (hb hby at_108) rfl k) ?_
    show OGo p e below s room_1 (OLawQ n0) (T73.setTop (mkF m 109 #[.val (.int q1), .val (.int (0 : Int32)), .val (.int (1 : Int32)), .val (.ref sd), .val (.ref la), .val (.ref lb), .val (.ref lc), .val (.ref ld), .val .null, .unset, .unset] [(.int (1 : Int32))]))
    refine own_st (fun t k => XS.ifNo X73.here hx rfl (hb hby at_109) rfl ((if0 _ _).trans (feq ((by decide : ¬ (1 : Int32) = (0 : Int32)))).1) k) ?_
    show OGo p e below s room_1 (OLawQ n0) (T73.setTop (mkF m 112 #[.val (.int q1), .val (.int (0 : Int32)), .val (.int (1 : Int32)), .val (.ref sd), .val (.ref la), .val (.ref lb), .val (.ref lc), .val (.ref ld), .val .null, .unset, .unset] []))
    refine own_st (fun t k => XS.aload X73.here hx rfl (hb hby at_112) rfl rfl k) ?_
    show OGo p e below s room_1 (OLawQ n0) (T73.setTop (mkF m 114 #[.val (.int q1), .val (.int (0 : Int32)), .val (.int (1 : Int32)), .val (.ref sd), .val (.ref la), .val (.ref lb), .val (.ref lc), .val (.ref ld), .val .null, .unset, .unset] [(.ref lc)]))
    refine own_st (fun t k => XS.goto X73.here hx rfl (pc0 := 114) (pc' := 118) rfl (hb hby at_114) (by decide) (by decide) k) ?_
    show OGo p e below s room_1 (OLawQ n0) (T73.setTop (mkF m 118 #[.val (.int q1), .val (.int (0 : Int32)), .val (.int (1 : Int32)), .val (.ref sd), .val (.ref la), .val (.ref lb), .val (.ref lc), .val (.ref ld), .val .null, .unset, .unset] [(.ref lc)]))
    refine own_st (fun t k => XS.astore X73.here hx rfl (hb hby at_118) rfl rfl (l' := #[.val (.int q1), .val (.int (0 : Int32)), .val (.int (1 : Int32)), .val (.ref sd), .val (.ref la), .val (.ref lb), .val (.ref lc), .val (.ref ld), .val .null, .val (.ref lc), .unset]) rfl k) ?_
    show OGo p e below s room_1 (OLawQ n0) (T73.setTop (mkF m 120 #[.val (.int q1), .val (.int (0 : Int32)), .val (.int (1 : Int32)), .val (.ref sd), .val (.ref la), .val (.ref lb), .val (.ref lc), .val (.ref ld), .val .null, .val (.ref lc), .unset] []))
    refine own_st (fun t k => XS.iloadN X73.here hx rfl (hb hby at_120) rfl k) ?_
    show OGo p e below s room_1 (OLawQ n0) (T73.setTop (mkF m 121 #[.val (.int q1), .val (.int (0 : Int32)), .val (.int (1 : Int32)), .val (.ref sd), .val (.ref la), .val (.ref lb), .val (.ref lc), .val (.ref ld), .val .null, .val (.ref lc), .unset] [(.int (1 : Int32))]))
    refine own_st (fun t k => XS.ifNo X73.here hx rfl (hb hby at_121) rfl ((if0 _ _).trans (feq ((by decide : ¬ (1 : Int32) = (0 : Int32)))).1) k) ?_
    show OGo p e below s room_1 (OLawQ n0) (T73.setTop (mkF m 124 #[.val (.int q1), .val (.int (0 : Int32)), .val (.int (1 : Int32)), .val (.ref sd), .val (.ref la), .val (.ref lb), .val (.ref lc), .val (.ref ld), .val .null, .val (.ref lc), .unset] []))
    refine own_st (fun t k => XS.aload X73.here hx rfl (hb hby at_124) rfl rfl k) ?_
    show OGo p e below s room_1 (OLawQ n0) (T73.setTop (mkF m 126 #[.val (.int q1), .val (.int (0 : Int32)), .val (.int (1 : Int32)), .val (.ref sd), .val (.ref la), .val (.ref lb), .val (.ref lc), .val (.ref ld), .val .null, .val (.ref lc), .unset] [(.ref lc)]))
    refine own_st (fun t k => XS.aconstNull X73.here hx rfl (hb hby at_126) k) ?_
    show OGo p e below s room_1 (OLawQ n0) (T73.setTop (mkF m 127 #[.val (.int q1), .val (.int (0 : Int32)), .val (.int (1 : Int32)), .val (.ref sd), .val (.ref la), .val (.ref lb), .val (.ref lc), .val (.ref ld), .val .null, .val (.ref lc), .unset] [.null, (.ref lc)]))
    refine own_st (fun t k => XS.aload X73.here hx rfl (hb hby at_127) rfl rfl k) ?_
    show OGo p e below s room_1 (OLawQ n0) (T73.setTop (mkF m 129 #[.val (.int q1), .val (.int (0 : Int32)), .val (.int (1 : Int32)), .val (.ref sd), .val (.ref la), .val (.ref lb), .val (.ref lc), .val (.ref ld), .val .null, .val (.ref lc), .unset] [(.ref ld), .null, (.ref lc)]))
    obtain ⟨_, T74, Lc74, X74, hQ74, st74⟩ := own_callV X73 hx hZ (y := (⟨"com/example/kurslot/kurslot/book/PriceLevel", "linkBetween", "(Lcom/example/kurslot/kurslot/book/PriceLevel;Lcom/example/kurslot/kurslot/book/PriceLevel;)V"⟩ : MethodName)) (z := (⟨"com/example/kurslot/kurslot/book/PriceLevel", "linkBetween", "(Lcom/example/kurslot/kurslot/book/PriceLevel;Lcom/example/kurslot/kurslot/book/PriceLevel;)V"⟩ : MethodName)) (W := 0) hown (hw _ (List.mem_of_getElem? (i := 26) rfl)) (hw _ (List.mem_of_getElem? (i := 27) rfl)) (notFace_of_selects (args := #[]) (mvT hZ (hw _ (List.mem_of_getElem? (i := 29) rfl)))) (hw _ (List.mem_of_getElem? (i := 29) rfl)) (hw _ (List.mem_of_getElem? (i := 28) rfl)) (hw _ (List.mem_of_getElem? (i := 30) rfl)) (hw _ (List.mem_of_getElem? (i := 5) rfl)) (by decide) (rm3_nd l Z a0 hw lc ld T73.heap n0 Z0 old_lc old_ld ne_lc_ld E_lc F_better_lc F_worse_lc E_ld F_better_ld F_worse_ld) (by decide) (by decide) E_lc (g := (mkF m 129 #[.val (.int q1), .val (.int (0 : Int32)), .val (.int (1 : Int32)), .val (.ref sd), .val (.ref la), .val (.ref lb), .val (.ref lc), .val (.ref ld), .val .null, .val (.ref lc), .unset] [(.ref ld), .null, (.ref lc)])) rfl (by rw [hml]; rfl) (argsL := [.null, (.ref ld)]) (rest := []) (lenOf pd_1 rfl) rfl (by show 2 * 0 + _ ≤ _; exact Nat.le_of_eq rfl) (hb hby at_129) rfl rfl (by decide) (by decide)
    obtain ⟨rfl, Nq74, Kq74, q74_0, q74_1, q74_2, q74_3, q74_4, q74_5⟩ := hQ74
    have Z0 := Nat.le_trans Z0 Kq74.1
    have E_la := E_la.keep Kq74
    have F_better_la := F_better_la.keep Kq74 (ninS ne_la_lc (ninS ne_la_ld nin0))
    have F_worse_la := F_worse_la.keep Kq74 (ninS ne_la_lc (ninS ne_la_ld nin0))
    have E_lb := E_lb.keep Kq74
    have F_better_lb := F_better_lb.keep Kq74 (ninS ne_lb_lc (ninS ne_lb_ld nin0))
    have F_worse_lb := F_worse_lb.keep Kq74 (ninS ne_lb_lc (ninS ne_lb_ld nin0))
    have Nr74 := Fr.app Nr73 Nq74
    have E_lc := q74_0
    have F_better_lc := q74_1
    have F_worse_lc := q74_2
    have E_ld := q74_3
    have F_better_ld := q74_4
    have F_worse_ld := q74_5
    refine own_st st74 ?_
    show OGo p e below s room_1 (OLawQ n0) (T74.setTop (mkF m 132 #[.val (.int q1), .val (.int (0 : Int32)), .val (.int (1 : Int32)), .val (.ref sd), .val (.ref la), .val (.ref lb), .val (.ref lc), .val (.ref ld), .val .null, .val (.ref lc), .unset] []))
    refine own_st (fun t k => XS.aload X74.here hx rfl (hb hby at_132) rfl rfl k) ?_
    show OGo p e below s room_1 (OLawQ n0) (T74.setTop (mkF m 134 #[.val (.int q1), .val (.int (0 : Int32)), .val (.int (1 : Int32)), .val (.ref sd), .val (.ref la), .val (.ref lb), .val (.ref lc), .val (.ref ld), .val .null, .val (.ref lc), .unset] [(.ref lb)]))
    refine own_st (fun t k => XS.aload X74.here hx rfl (hb hby at_134) rfl rfl k) ?_
    show OGo p e below s room_1 (OLawQ n0) (T74.setTop (mkF m 136 #[.val (.int q1), .val (.int (0 : Int32)), .val (.int (1 : Int32)), .val (.ref sd), .val (.ref la), .val (.ref lb), .val (.ref lc), .val (.ref ld), .val .null, .val (.ref lc), .unset] [.null, (.ref lb)]))
    refine own_st (fun t k => XS.aload X74.here hx rfl (hb hby at_136) rfl rfl k) ?_
    show OGo p e below s room_1 (OLawQ n0) (T74.setTop (mkF m 138 #[.val (.int q1), .val (.int (0 : Int32)), .val (.int (1 : Int32)), .val (.ref sd), .val (.ref la), .val (.ref lb), .val (.ref lc), .val (.ref ld), .val .null, .val (.ref lc), .unset] [(.ref lc), .null, (.ref lb)]))
    obtain ⟨_, T75, Lc75, X75, hQ75, st75⟩ := own_callV X74 hx hZ (y := (⟨"com/example/kurslot/kurslot/book/PriceLevel", "linkBetween", "(Lcom/example/kurslot/kurslot/book/PriceLevel;Lcom/example/kurslot/kurslot/book/PriceLevel;)V"⟩ : MethodName)) (z := (⟨"com/example/kurslot/kurslot/book/PriceLevel", "linkBetween", "(Lcom/example/kurslot/kurslot/book/PriceLevel;Lcom/example/kurslot/kurslot/book/PriceLevel;)V"⟩ : MethodName)) (W := 0) hown (hw _ (List.mem_of_getElem? (i := 26) rfl)) (hw _ (List.mem_of_getElem? (i := 27) rfl)) (notFace_of_selects (args := #[]) (mvT hZ (hw _ (List.mem_of_getElem? (i := 29) rfl)))) (hw _ (List.mem_of_getElem? (i := 29) rfl)) (hw _ (List.mem_of_getElem? (i := 28) rfl)) (hw _ (List.mem_of_getElem? (i := 30) rfl)) (hw _ (List.mem_of_getElem? (i := 5) rfl)) (by decide) (rm3_01 l Z a0 hw lb lc ld T74.heap n0 Z0 old_lb old_lc ne_lb_lc E_lb F_better_lb F_worse_lb E_lc F_better_lc F_worse_lc) (by decide) (by decide) E_lb (g := (mkF m 138 #[.val (.int q1), .val (.int (0 : Int32)), .val (.int (1 : Int32)), .val (.ref sd), .val (.ref la), .val (.ref lb), .val (.ref lc), .val (.ref ld), .val .null, .val (.ref lc), .unset] [(.ref lc), .null, (.ref lb)])) rfl (by rw [hml]; rfl) (argsL := [.null, (.ref lc)]) (rest := []) (lenOf pd_1 rfl) rfl (by show 2 * 0 + _ ≤ _; exact Nat.le_of_eq rfl) (hb hby at_138) rfl rfl (by decide) (by decide)
    obtain ⟨rfl, Nq75, Kq75, q75_0, q75_1, q75_2, q75_3, q75_4, q75_5⟩ := hQ75
    have Z0 := Nat.le_trans Z0 Kq75.1
    have E_la := E_la.keep Kq75
    have F_better_la := F_better_la.keep Kq75 (ninS ne_la_lb (ninS ne_la_lc nin0))
    have F_worse_la := F_worse_la.keep Kq75 (ninS ne_la_lb (ninS ne_la_lc nin0))
    have E_ld := E_ld.keep Kq75
    have F_better_ld := F_better_ld.keep Kq75 (ninS (Ne.symm ne_lb_ld) (ninS (Ne.symm ne_lc_ld) nin0))
    have F_worse_ld := F_worse_ld.keep Kq75 (ninS (Ne.symm ne_lb_ld) (ninS (Ne.symm ne_lc_ld) nin0))
    have Nr75 := Fr.app Nr74 Nq75
    have E_lb := q75_0
    have F_better_lb := q75_1
    have F_worse_lb := q75_2
    have E_lc := q75_3
    have F_better_lc := q75_4
    have F_worse_lc := q75_5
    refine own_st st75 ?_
    show OGo p e below s room_1 (OLawQ n0) (T75.setTop (mkF m 141 #[.val (.int q1), .val (.int (0 : Int32)), .val (.int (1 : Int32)), .val (.ref sd), .val (.ref la), .val (.ref lb), .val (.ref lc), .val (.ref ld), .val .null, .val (.ref lc), .unset] []))
    refine own_st (fun t k => XS.aload X75.here hx rfl (hb hby at_141) rfl rfl k) ?_
    show OGo p e below s room_1 (OLawQ n0) (T75.setTop (mkF m 143 #[.val (.int q1), .val (.int (0 : Int32)), .val (.int (1 : Int32)), .val (.ref sd), .val (.ref la), .val (.ref lb), .val (.ref lc), .val (.ref ld), .val .null, .val (.ref lc), .unset] [(.ref lb)]))
    obtain ⟨_, T76, Lc76, X76, hQ76, st76⟩ := own_callV X75 hx hZ (y := (⟨"com/example/kurslot/kurslot/book/PriceLevel", "unlink", "()V"⟩ : MethodName)) (z := (⟨"com/example/kurslot/kurslot/book/PriceLevel", "unlink", "()V"⟩ : MethodName)) (W := 0) hown (hw _ (List.mem_of_getElem? (i := 35) rfl)) (hw _ (List.mem_of_getElem? (i := 36) rfl)) (notFace_of_selects (args := #[]) (mvT hZ (hw _ (List.mem_of_getElem? (i := 38) rfl)))) (hw _ (List.mem_of_getElem? (i := 38) rfl)) (hw _ (List.mem_of_getElem? (i := 37) rfl)) (hw _ (List.mem_of_getElem? (i := 39) rfl)) (hw _ (List.mem_of_getElem? (i := 5) rfl)) (by decide) (rm4_01 l Z a0 hw lb lc (.ref ld) T75.heap n0 Z0 old_lb old_lc ne_lb_lc E_lb F_better_lb F_worse_lb E_lc F_better_lc F_worse_lc) (by decide) (by decide) E_lb (g := (mkF m 143 #[.val (.int q1), .val (.int (0 : Int32)), .val (.int (1 : Int32)), .val (.ref sd), .val (.ref la), .val (.ref lb), .val (.ref lc), .val (.ref ld), .val .null, .val (.ref lc), .unset] [(.ref lb)])) rfl (by rw [hml]; rfl) (argsL := []) (rest := []) (lenOf pd_2 rfl) rfl (by show 2 * 0 + _ ≤ _; exact Nat.le_of_eq rfl) (hb hby at_143) rfl rfl (by decide) (by decide)
    obtain ⟨rfl, Nq76, Kq76, q76_0, q76_1, q76_2, q76_3, q76_4, q76_5⟩ := hQ76
    have Z0 := Nat.le_trans Z0 Kq76.1
    have E_la := E_la.keep Kq76
    have F_better_la := F_better_la.keep Kq76 (ninS ne_la_lb (ninS ne_la_lc nin0))
    have F_worse_la := F_worse_la.keep Kq76 (ninS ne_la_lb (ninS ne_la_lc nin0))
    have E_ld := E_ld.keep Kq76
    have F_better_ld := F_better_ld.keep Kq76 (ninS (Ne.symm ne_lb_ld) (ninS (Ne.symm ne_lc_ld) nin0))
    have F_worse_ld := F_worse_ld.keep Kq76 (ninS (Ne.symm ne_lb_ld) (ninS (Ne.symm ne_lc_ld) nin0))
    have Nr76 := Fr.app Nr75 Nq76
    have E_lb := q76_0
    have F_better_lb := q76_1
    have F_worse_lb := q76_2
    have E_lc := q76_3
    have F_better_lc := q76_4
    have F_worse_lc := q76_5
    refine own_st st76 ?_
    show OGo p e below s room_1 (OLawQ n0) (T76.setTop (mkF m 146 #[.val (.int q1), .val (.int (0 : Int32)), .val (.int (1 : Int32)), .val (.ref sd), .val (.ref la), .val (.ref lb), .val (.ref lc), .val (.ref ld), .val .null, .val (.ref lc), .unset] []))
    refine own_st (fun t k => XS.aload X76.here hx rfl (hb hby at_146) rfl rfl k) ?_
    show OGo p e below s room_1 (OLawQ n0) (T76.setTop (mkF m 148 #[.val (.int q1), .val (.int (0 : Int32)), .val (.int (1 : Int32)), .val (.ref sd), .val (.ref la), .val (.ref lb), .val (.ref lc), .val (.ref ld), .val .null, .val (.ref lc), .unset] [(.ref lb)]))
    obtain ⟨T77, X77, e77, st77⟩ := own_callVP X76 hx hZ (y := (⟨"com/example/kurslot/kurslot/book/PriceLevel", "worse", "()Lcom/example/kurslot/kurslot/book/PriceLevel;"⟩ : MethodName)) (z := (⟨"com/example/kurslot/kurslot/book/PriceLevel", "worse", "()Lcom/example/kurslot/kurslot/book/PriceLevel;"⟩ : MethodName)) (W := 0) hown (hw _ (List.mem_of_getElem? (i := 40) rfl)) (hw _ (List.mem_of_getElem? (i := 41) rfl)) (notFace_of_selects (args := #[]) (mvT hZ (hw _ (List.mem_of_getElem? (i := 43) rfl)))) (hw _ (List.mem_of_getElem? (i := 43) rfl)) (hw _ (List.mem_of_getElem? (i := 42) rfl)) (hw _ (List.mem_of_getElem? (i := 44) rfl)) (hw _ (List.mem_of_getElem? (i := 5) rfl)) (by decide) (rm5_0 l Z a0 hw lb T76.heap F_worse_lb) (by decide) (by decide) E_lb (g := (mkF m 148 #[.val (.int q1), .val (.int (0 : Int32)), .val (.int (1 : Int32)), .val (.ref sd), .val (.ref la), .val (.ref lb), .val (.ref lc), .val (.ref ld), .val .null, .val (.ref lc), .unset] [(.ref lb)])) rfl (by rw [hml]; rfl) (argsL := []) (rest := []) (lenOf pd_3 rfl) rfl (by show 2 * 0 + _ ≤ _; exact Nat.le_of_eq rfl) (hb hby at_148) rfl rfl (by decide) (by decide)
    refine own_st st77 ?_
    show OGo p e below s room_1 (OLawQ n0) (T77.setTop (mkF m 151 #[.val (.int q1), .val (.int (0 : Int32)), .val (.int (1 : Int32)), .val (.ref sd), .val (.ref la), .val (.ref lb), .val (.ref lc), .val (.ref ld), .val .null, .val (.ref lc), .unset] [.null]))
    refine own_st (fun t k => XS.ifnonnullNo X77.here hx rfl (hb hby at_151) rfl k) ?_
    show OGo p e below s room_1 (OLawQ n0) (T77.setTop (mkF m 154 #[.val (.int q1), .val (.int (0 : Int32)), .val (.int (1 : Int32)), .val (.ref sd), .val (.ref la), .val (.ref lb), .val (.ref lc), .val (.ref ld), .val .null, .val (.ref lc), .unset] []))
    refine own_st (fun t k => XS.iconst X77.here hx rfl (hb hby at_154) k) ?_
    show OGo p e below s room_1 (OLawQ n0) (T77.setTop (mkF m 155 #[.val (.int q1), .val (.int (0 : Int32)), .val (.int (1 : Int32)), .val (.ref sd), .val (.ref la), .val (.ref lb), .val (.ref lc), .val (.ref ld), .val .null, .val (.ref lc), .unset] [(.int (1 : Int32))]))
    refine own_st (fun t k => XS.goto X77.here hx rfl (pc0 := 155) (pc' := 159) rfl (hb hby at_155) (by decide) (by decide) k) ?_
    show OGo p e below s room_1 (OLawQ n0) (T77.setTop (mkF m 159 #[.val (.int q1), .val (.int (0 : Int32)), .val (.int (1 : Int32)), .val (.ref sd), .val (.ref la), .val (.ref lb), .val (.ref lc), .val (.ref ld), .val .null, .val (.ref lc), .unset] [(.int (1 : Int32))]))
    refine own_st (fun t k => XS.istore X77.here hx rfl (hb hby at_159) rfl (l' := #[.val (.int q1), .val (.int (0 : Int32)), .val (.int (1 : Int32)), .val (.ref sd), .val (.ref la), .val (.ref lb), .val (.ref lc), .val (.ref ld), .val .null, .val (.ref lc), .val (.int (1 : Int32))]) rfl k) ?_
    show OGo p e below s room_1 (OLawQ n0) (T77.setTop (mkF m 161 #[.val (.int q1), .val (.int (0 : Int32)), .val (.int (1 : Int32)), .val (.ref sd), .val (.ref la), .val (.ref lb), .val (.ref lc), .val (.ref ld), .val .null, .val (.ref lc), .val (.int (1 : Int32))] []))
    refine own_st (fun t k => XS.iloadN X77.here hx rfl (hb hby at_161) rfl k) ?_
    show OGo p e below s room_1 (OLawQ n0) (T77.setTop (mkF m 162 #[.val (.int q1), .val (.int (0 : Int32)), .val (.int (1 : Int32)), .val (.ref sd), .val (.ref la), .val (.ref lb), .val (.ref lc), .val (.ref ld), .val .null, .val (.ref lc), .val (.int (1 : Int32))] [(.int (0 : Int32))]))
    refine own_st (fun t k => XS.ifYes X77.here hx rfl (pc0 := 162) (pc' := 187) rfl (hb hby at_162) rfl ((if0 _ _).trans (teq ((by decide : (0 : Int32) = (0 : Int32)))).1) (by decide) (by decide) k) ?_
    show OGo p e below s room_1 (OLawQ n0) (T77.setTop (mkF m 187 #[.val (.int q1), .val (.int (0 : Int32)), .val (.int (1 : Int32)), .val (.ref sd), .val (.ref la), .val (.ref lb), .val (.ref lc), .val (.ref ld), .val .null, .val (.ref lc), .val (.int (1 : Int32))] []))
    refine own_st (fun t k => XS.iloadN X77.here hx rfl (hb hby at_187) rfl k) ?_
    show OGo p e below s room_1 (OLawQ n0) (T77.setTop (mkF m 188 #[.val (.int q1), .val (.int (0 : Int32)), .val (.int (1 : Int32)), .val (.ref sd), .val (.ref la), .val (.ref lb), .val (.ref lc), .val (.ref ld), .val .null, .val (.ref lc), .val (.int (1 : Int32))] [(.int (1 : Int32))]))
    refine own_st (fun t k => XS.ifNo X77.here hx rfl (hb hby at_188) rfl ((if0 _ _).trans (feq ((by decide : ¬ (1 : Int32) = (0 : Int32)))).1) k) ?_
    show OGo p e below s room_1 (OLawQ n0) (T77.setTop (mkF m 191 #[.val (.int q1), .val (.int (0 : Int32)), .val (.int (1 : Int32)), .val (.ref sd), .val (.ref la), .val (.ref lb), .val (.ref lc), .val (.ref ld), .val .null, .val (.ref lc), .val (.int (1 : Int32))] []))
    refine own_st (fun t k => XS.iload X77.here hx rfl (hb hby at_191) rfl k) ?_
    show OGo p e below s room_1 (OLawQ n0) (T77.setTop (mkF m 193 #[.val (.int q1), .val (.int (0 : Int32)), .val (.int (1 : Int32)), .val (.ref sd), .val (.ref la), .val (.ref lb), .val (.ref lc), .val (.ref ld), .val .null, .val (.ref lc), .val (.int (1 : Int32))] [(.int (1 : Int32))]))
    refine own_st (fun t k => XS.ifNo X77.here hx rfl (hb hby at_193) rfl ((if0 _ _).trans (feq ((by decide : ¬ (1 : Int32) = (0 : Int32)))).1) k) ?_
    show OGo p e below s room_1 (OLawQ n0) (T77.setTop (mkF m 196 #[.val (.int q1), .val (.int (0 : Int32)), .val (.int (1 : Int32)), .val (.ref sd), .val (.ref la), .val (.ref lb), .val (.ref lc), .val (.ref ld), .val .null, .val (.ref lc), .val (.int (1 : Int32))] []))
    refine own_st (fun t k => XS.aload X77.here hx rfl (hb hby at_196) rfl rfl k) ?_
    show OGo p e below s room_1 (OLawQ n0) (T77.setTop (mkF m 198 #[.val (.int q1), .val (.int (0 : Int32)), .val (.int (1 : Int32)), .val (.ref sd), .val (.ref la), .val (.ref lb), .val (.ref lc), .val (.ref ld), .val .null, .val (.ref lc), .val (.int (1 : Int32))] [(.ref lc)]))
    obtain ⟨T78, X78, e78, st78⟩ := own_callVP X77 hx hZ (y := (⟨"com/example/kurslot/kurslot/book/PriceLevel", "worse", "()Lcom/example/kurslot/kurslot/book/PriceLevel;"⟩ : MethodName)) (z := (⟨"com/example/kurslot/kurslot/book/PriceLevel", "worse", "()Lcom/example/kurslot/kurslot/book/PriceLevel;"⟩ : MethodName)) (W := 0) hown (hw _ (List.mem_of_getElem? (i := 40) rfl)) (hw _ (List.mem_of_getElem? (i := 41) rfl)) (notFace_of_selects (args := #[]) (mvT hZ (hw _ (List.mem_of_getElem? (i := 43) rfl)))) (hw _ (List.mem_of_getElem? (i := 43) rfl)) (hw _ (List.mem_of_getElem? (i := 42) rfl)) (hw _ (List.mem_of_getElem? (i := 44) rfl)) (hw _ (List.mem_of_getElem? (i := 5) rfl)) (by decide) (rm5_1 l Z a0 hw lc ld T76.heap F_worse_lc) (by decide) (by decide) E_lc (g := (mkF m 198 #[.val (.int q1), .val (.int (0 : Int32)), .val (.int (1 : Int32)), .val (.ref sd), .val (.ref la), .val (.ref lb), .val (.ref lc), .val (.ref ld), .val .null, .val (.ref lc), .val (.int (1 : Int32))] [(.ref lc)])) rfl (by rw [hml]; rfl) (argsL := []) (rest := []) (lenOf pd_3 rfl) rfl (by show 2 * 0 + _ ≤ _; exact Nat.le_of_eq rfl) (hb hby at_198) rfl e77 (by decide) (by decide)
    refine own_st st78 ?_
    show OGo p e below s room_1 (OLawQ n0) (T78.setTop (mkF m 201 #[.val (.int q1), .val (.int (0 : Int32)), .val (.int (1 : Int32)), .val (.ref sd), .val (.ref la), .val (.ref lb), .val (.ref lc), .val (.ref ld), .val .null, .val (.ref lc), .val (.int (1 : Int32))] [(.ref ld)]))
    refine own_st (fun t k => XS.aload X78.here hx rfl (hb hby at_201) rfl rfl k) ?_
    show OGo p e below s room_1 (OLawQ n0) (T78.setTop (mkF m 203 #[.val (.int q1), .val (.int (0 : Int32)), .val (.int (1 : Int32)), .val (.ref sd), .val (.ref la), .val (.ref lb), .val (.ref lc), .val (.ref ld), .val .null, .val (.ref lc), .val (.int (1 : Int32))] [(.ref ld), (.ref ld)]))
    refine own_st (fun t k => Jvm.RoadKit.acmp (g := (mkF m 203 #[.val (.int q1), .val (.int (0 : Int32)), .val (.int (1 : Int32)), .val (.ref sd), .val (.ref la), .val (.ref lb), .val (.ref lc), .val (.ref ld), .val .null, .val (.ref lc), .val (.int (1 : Int32))] [(.ref ld), (.ref ld)])) X78 hx rfl rfl rfl (pc0 := 203) (pc' := 206) (same := true) rfl (hb hby at_203) rfl (decide_eq_true rfl) (by decide) (by decide) k) ?_
    show OGo p e below s room_1 (OLawQ n0) (T78.setTop (mkF m 206 #[.val (.int q1), .val (.int (0 : Int32)), .val (.int (1 : Int32)), .val (.ref sd), .val (.ref la), .val (.ref lb), .val (.ref lc), .val (.ref ld), .val .null, .val (.ref lc), .val (.int (1 : Int32))] []))
    refine own_st (fun t k => XS.iconst X78.here hx rfl (hb hby at_206) k) ?_
    show OGo p e below s room_1 (OLawQ n0) (T78.setTop (mkF m 207 #[.val (.int q1), .val (.int (0 : Int32)), .val (.int (1 : Int32)), .val (.ref sd), .val (.ref la), .val (.ref lb), .val (.ref lc), .val (.ref ld), .val .null, .val (.ref lc), .val (.int (1 : Int32))] [(.int (1 : Int32))]))
    refine own_st (fun t k => XS.goto X78.here hx rfl (pc0 := 207) (pc' := 211) rfl (hb hby at_207) (by decide) (by decide) k) ?_
    show OGo p e below s room_1 (OLawQ n0) (T78.setTop (mkF m 211 #[.val (.int q1), .val (.int (0 : Int32)), .val (.int (1 : Int32)), .val (.ref sd), .val (.ref la), .val (.ref lb), .val (.ref lc), .val (.ref ld), .val .null, .val (.ref lc), .val (.int (1 : Int32))] [(.int (1 : Int32))]))
    refine own_st (fun t k => XS.istore X78.here hx rfl (hb hby at_211) rfl (l' := #[.val (.int q1), .val (.int (0 : Int32)), .val (.int (1 : Int32)), .val (.ref sd), .val (.ref la), .val (.ref lb), .val (.ref lc), .val (.ref ld), .val .null, .val (.ref lc), .val (.int (1 : Int32))]) rfl k) ?_
    show OGo p e below s room_1 (OLawQ n0) (T78.setTop (mkF m 213 #[.val (.int q1), .val (.int (0 : Int32)), .val (.int (1 : Int32)), .val (.ref sd), .val (.ref la), .val (.ref lb), .val (.ref lc), .val (.ref ld), .val .null, .val (.ref lc), .val (.int (1 : Int32))] []))
    refine own_st (fun t k => XS.aload X78.here hx rfl (hb hby at_213) rfl rfl k) ?_
    show OGo p e below s room_1 (OLawQ n0) (T78.setTop (mkF m 215 #[.val (.int q1), .val (.int (0 : Int32)), .val (.int (1 : Int32)), .val (.ref sd), .val (.ref la), .val (.ref lb), .val (.ref lc), .val (.ref ld), .val .null, .val (.ref lc), .val (.int (1 : Int32))] [(.ref lb)]))
    obtain ⟨_, T79, Lc79, X79, hQ79, st79⟩ := own_callV X78 hx hZ (y := (⟨"com/example/kurslot/kurslot/book/PriceLevel", "unlink", "()V"⟩ : MethodName)) (z := (⟨"com/example/kurslot/kurslot/book/PriceLevel", "unlink", "()V"⟩ : MethodName)) (W := 0) hown (hw _ (List.mem_of_getElem? (i := 35) rfl)) (hw _ (List.mem_of_getElem? (i := 36) rfl)) (notFace_of_selects (args := #[]) (mvT hZ (hw _ (List.mem_of_getElem? (i := 38) rfl)))) (hw _ (List.mem_of_getElem? (i := 38) rfl)) (hw _ (List.mem_of_getElem? (i := 37) rfl)) (hw _ (List.mem_of_getElem? (i := 39) rfl)) (hw _ (List.mem_of_getElem? (i := 5) rfl)) (by decide) (rm4_00 l Z a0 hw lb T76.heap n0 Z0 old_lb E_lb F_better_lb F_worse_lb) (by decide) (by decide) E_lb (g := (mkF m 215 #[.val (.int q1), .val (.int (0 : Int32)), .val (.int (1 : Int32)), .val (.ref sd), .val (.ref la), .val (.ref lb), .val (.ref lc), .val (.ref ld), .val .null, .val (.ref lc), .val (.int (1 : Int32))] [(.ref lb)])) rfl (by rw [hml]; rfl) (argsL := []) (rest := []) (lenOf pd_2 rfl) rfl (by show 2 * 0 + _ ≤ _; exact Nat.le_of_eq rfl) (hb hby at_215) rfl e78 (by decide) (by decide)
    obtain ⟨rfl, Nq79, Kq79, q79_0, q79_1, q79_2⟩ := hQ79
    have Z0 := Nat.le_trans Z0 Kq79.1
    have E_la := E_la.keep Kq79
    have F_better_la := F_better_la.keep Kq79 (ninS ne_la_lb nin0)
    have F_worse_la := F_worse_la.keep Kq79 (ninS ne_la_lb nin0)
    have E_ld := E_ld.keep Kq79
    have F_better_ld := F_better_ld.keep Kq79 (ninS (Ne.symm ne_lb_ld) nin0)
    have F_worse_ld := F_worse_ld.keep Kq79 (ninS (Ne.symm ne_lb_ld) nin0)
    have E_lc := E_lc.keep Kq79
    have F_better_lc := F_better_lc.keep Kq79 (ninS (Ne.symm ne_lb_lc) nin0)
    have F_worse_lc := F_worse_lc.keep Kq79 (ninS (Ne.symm ne_lb_lc) nin0)
    have Nr79 := Fr.app Nr76 Nq79
    have E_lb := q79_0
    have F_better_lb := q79_1
    have F_worse_lb := q79_2
    refine own_st st79 ?_
    show OGo p e below s room_1 (OLawQ n0) (T79.setTop (mkF m 218 #[.val (.int q1), .val (.int (0 : Int32)), .val (.int (1 : Int32)), .val (.ref sd), .val (.ref la), .val (.ref lb), .val (.ref lc), .val (.ref ld), .val .null, .val (.ref lc), .val (.int (1 : Int32))] []))
    refine own_st (fun t k => XS.iload X79.here hx rfl (hb hby at_218) rfl k) ?_
    show OGo p e below s room_1 (OLawQ n0) (T79.setTop (mkF m 220 #[.val (.int q1), .val (.int (0 : Int32)), .val (.int (1 : Int32)), .val (.ref sd), .val (.ref la), .val (.ref lb), .val (.ref lc), .val (.ref ld), .val .null, .val (.ref lc), .val (.int (1 : Int32))] [(.int (1 : Int32))]))
    refine own_st (fun t k => XS.ifNo X79.here hx rfl (hb hby at_220) rfl ((if0 _ _).trans (feq ((by decide : ¬ (1 : Int32) = (0 : Int32)))).1) k) ?_
    show OGo p e below s room_1 (OLawQ n0) (T79.setTop (mkF m 223 #[.val (.int q1), .val (.int (0 : Int32)), .val (.int (1 : Int32)), .val (.ref sd), .val (.ref la), .val (.ref lb), .val (.ref lc), .val (.ref ld), .val .null, .val (.ref lc), .val (.int (1 : Int32))] []))
    refine own_st (fun t k => XS.aload X79.here hx rfl (hb hby at_223) rfl rfl k) ?_
    show OGo p e below s room_1 (OLawQ n0) (T79.setTop (mkF m 225 #[.val (.int q1), .val (.int (0 : Int32)), .val (.int (1 : Int32)), .val (.ref sd), .val (.ref la), .val (.ref lb), .val (.ref lc), .val (.ref ld), .val .null, .val (.ref lc), .val (.int (1 : Int32))] [(.ref lb)]))
    obtain ⟨T80, X80, e80, st80⟩ := own_callVP X79 hx hZ (y := (⟨"com/example/kurslot/kurslot/book/PriceLevel", "worse", "()Lcom/example/kurslot/kurslot/book/PriceLevel;"⟩ : MethodName)) (z := (⟨"com/example/kurslot/kurslot/book/PriceLevel", "worse", "()Lcom/example/kurslot/kurslot/book/PriceLevel;"⟩ : MethodName)) (W := 0) hown (hw _ (List.mem_of_getElem? (i := 40) rfl)) (hw _ (List.mem_of_getElem? (i := 41) rfl)) (notFace_of_selects (args := #[]) (mvT hZ (hw _ (List.mem_of_getElem? (i := 43) rfl)))) (hw _ (List.mem_of_getElem? (i := 43) rfl)) (hw _ (List.mem_of_getElem? (i := 42) rfl)) (hw _ (List.mem_of_getElem? (i := 44) rfl)) (hw _ (List.mem_of_getElem? (i := 5) rfl)) (by decide) (rm5_0 l Z a0 hw lb T79.heap F_worse_lb) (by decide) (by decide) E_lb (g := (mkF m 225 #[.val (.int q1), .val (.int (0 : Int32)), .val (.int (1 : Int32)), .val (.ref sd), .val (.ref la), .val (.ref lb), .val (.ref lc), .val (.ref ld), .val .null, .val (.ref lc), .val (.int (1 : Int32))] [(.ref lb)])) rfl (by rw [hml]; rfl) (argsL := []) (rest := []) (lenOf pd_3 rfl) rfl (by show 2 * 0 + _ ≤ _; exact Nat.le_of_eq rfl) (hb hby at_225) rfl rfl (by decide) (by decide)
    refine own_st st80 ?_
    show OGo p e below s room_1 (OLawQ n0) (T80.setTop (mkF m 228 #[.val (.int q1), .val (.int (0 : Int32)), .val (.int (1 : Int32)), .val (.ref sd), .val (.ref la), .val (.ref lb), .val (.ref lc), .val (.ref ld), .val .null, .val (.ref lc), .val (.int (1 : Int32))] [.null]))
    refine own_st (fun t k => XS.ifnonnullNo X80.here hx rfl (hb hby at_228) rfl k) ?_
    show OGo p e below s room_1 (OLawQ n0) (T80.setTop (mkF m 231 #[.val (.int q1), .val (.int (0 : Int32)), .val (.int (1 : Int32)), .val (.ref sd), .val (.ref la), .val (.ref lb), .val (.ref lc), .val (.ref ld), .val .null, .val (.ref lc), .val (.int (1 : Int32))] []))
    refine own_st (fun t k => XS.iconst X80.here hx rfl (hb hby at_231) k) ?_
    show OGo p e below s room_1 (OLawQ n0) (T80.setTop (mkF m 232 #[.val (.int q1), .val (.int (0 : Int32)), .val (.int (1 : Int32)), .val (.ref sd), .val (.ref la), .val (.ref lb), .val (.ref lc), .val (.ref ld), .val .null, .val (.ref lc), .val (.int (1 : Int32))] [(.int (1 : Int32))]))
    refine own_st (fun t k => XS.goto X80.here hx rfl (pc0 := 232) (pc' := 236) rfl (hb hby at_232) (by decide) (by decide) k) ?_
    show OGo p e below s room_1 (OLawQ n0) (T80.setTop (mkF m 236 #[.val (.int q1), .val (.int (0 : Int32)), .val (.int (1 : Int32)), .val (.ref sd), .val (.ref la), .val (.ref lb), .val (.ref lc), .val (.ref ld), .val .null, .val (.ref lc), .val (.int (1 : Int32))] [(.int (1 : Int32))]))
    refine own_st (fun t k => XS.istore X80.here hx rfl (hb hby at_236) rfl (l' := #[.val (.int q1), .val (.int (0 : Int32)), .val (.int (1 : Int32)), .val (.ref sd), .val (.ref la), .val (.ref lb), .val (.ref lc), .val (.ref ld), .val .null, .val (.ref lc), .val (.int (1 : Int32))]) rfl k) ?_
    show OGo p e below s room_1 (OLawQ n0) (T80.setTop (mkF m 238 #[.val (.int q1), .val (.int (0 : Int32)), .val (.int (1 : Int32)), .val (.ref sd), .val (.ref la), .val (.ref lb), .val (.ref lc), .val (.ref ld), .val .null, .val (.ref lc), .val (.int (1 : Int32))] []))
    refine own_st (fun t k => XS.iloadN X80.here hx rfl (hb hby at_238) rfl k) ?_
    show OGo p e below s room_1 (OLawQ n0) (T80.setTop (mkF m 239 #[.val (.int q1), .val (.int (0 : Int32)), .val (.int (1 : Int32)), .val (.ref sd), .val (.ref la), .val (.ref lb), .val (.ref lc), .val (.ref ld), .val .null, .val (.ref lc), .val (.int (1 : Int32))] [(.int (0 : Int32))]))
    refine own_st (fun t k => XS.ifYes X80.here hx rfl (pc0 := 239) (pc' := 264) rfl (hb hby at_239) rfl ((if0 _ _).trans (teq ((by decide : (0 : Int32) = (0 : Int32)))).1) (by decide) (by decide) k) ?_
    show OGo p e below s room_1 (OLawQ n0) (T80.setTop (mkF m 264 #[.val (.int q1), .val (.int (0 : Int32)), .val (.int (1 : Int32)), .val (.ref sd), .val (.ref la), .val (.ref lb), .val (.ref lc), .val (.ref ld), .val .null, .val (.ref lc), .val (.int (1 : Int32))] []))
    refine own_st (fun t k => XS.iloadN X80.here hx rfl (hb hby at_264) rfl k) ?_
    show OGo p e below s room_1 (OLawQ n0) (T80.setTop (mkF m 265 #[.val (.int q1), .val (.int (0 : Int32)), .val (.int (1 : Int32)), .val (.ref sd), .val (.ref la), .val (.ref lb), .val (.ref lc), .val (.ref ld), .val .null, .val (.ref lc), .val (.int (1 : Int32))] [(.int (1 : Int32))]))
    refine own_st (fun t k => XS.ifNo X80.here hx rfl (hb hby at_265) rfl ((if0 _ _).trans (feq ((by decide : ¬ (1 : Int32) = (0 : Int32)))).1) k) ?_
    show OGo p e below s room_1 (OLawQ n0) (T80.setTop (mkF m 268 #[.val (.int q1), .val (.int (0 : Int32)), .val (.int (1 : Int32)), .val (.ref sd), .val (.ref la), .val (.ref lb), .val (.ref lc), .val (.ref ld), .val .null, .val (.ref lc), .val (.int (1 : Int32))] []))
    refine own_st (fun t k => XS.iload X80.here hx rfl (hb hby at_268) rfl k) ?_
    show OGo p e below s room_1 (OLawQ n0) (T80.setTop (mkF m 270 #[.val (.int q1), .val (.int (0 : Int32)), .val (.int (1 : Int32)), .val (.ref sd), .val (.ref la), .val (.ref lb), .val (.ref lc), .val (.ref ld), .val .null, .val (.ref lc), .val (.int (1 : Int32))] [(.int (1 : Int32))]))
    refine own_st (fun t k => XS.ifNo X80.here hx rfl (hb hby at_270) rfl ((if0 _ _).trans (feq ((by decide : ¬ (1 : Int32) = (0 : Int32)))).1) k) ?_
    show OGo p e below s room_1 (OLawQ n0) (T80.setTop (mkF m 273 #[.val (.int q1), .val (.int (0 : Int32)), .val (.int (1 : Int32)), .val (.ref sd), .val (.ref la), .val (.ref lb), .val (.ref lc), .val (.ref ld), .val .null, .val (.ref lc), .val (.int (1 : Int32))] []))
    refine own_st (fun t k => XS.aload X80.here hx rfl (hb hby at_273) rfl rfl k) ?_
    show OGo p e below s room_1 (OLawQ n0) (T80.setTop (mkF m 275 #[.val (.int q1), .val (.int (0 : Int32)), .val (.int (1 : Int32)), .val (.ref sd), .val (.ref la), .val (.ref lb), .val (.ref lc), .val (.ref ld), .val .null, .val (.ref lc), .val (.int (1 : Int32))] [(.ref lc)]))
    obtain ⟨T81, X81, e81, st81⟩ := own_callVP X80 hx hZ (y := (⟨"com/example/kurslot/kurslot/book/PriceLevel", "worse", "()Lcom/example/kurslot/kurslot/book/PriceLevel;"⟩ : MethodName)) (z := (⟨"com/example/kurslot/kurslot/book/PriceLevel", "worse", "()Lcom/example/kurslot/kurslot/book/PriceLevel;"⟩ : MethodName)) (W := 0) hown (hw _ (List.mem_of_getElem? (i := 40) rfl)) (hw _ (List.mem_of_getElem? (i := 41) rfl)) (notFace_of_selects (args := #[]) (mvT hZ (hw _ (List.mem_of_getElem? (i := 43) rfl)))) (hw _ (List.mem_of_getElem? (i := 43) rfl)) (hw _ (List.mem_of_getElem? (i := 42) rfl)) (hw _ (List.mem_of_getElem? (i := 44) rfl)) (hw _ (List.mem_of_getElem? (i := 5) rfl)) (by decide) (rm5_1 l Z a0 hw lc ld T79.heap F_worse_lc) (by decide) (by decide) E_lc (g := (mkF m 275 #[.val (.int q1), .val (.int (0 : Int32)), .val (.int (1 : Int32)), .val (.ref sd), .val (.ref la), .val (.ref lb), .val (.ref lc), .val (.ref ld), .val .null, .val (.ref lc), .val (.int (1 : Int32))] [(.ref lc)])) rfl (by rw [hml]; rfl) (argsL := []) (rest := []) (lenOf pd_3 rfl) rfl (by show 2 * 0 + _ ≤ _; exact Nat.le_of_eq rfl) (hb hby at_275) rfl e80 (by decide) (by decide)
    refine own_st st81 ?_
    show OGo p e below s room_1 (OLawQ n0) (T81.setTop (mkF m 278 #[.val (.int q1), .val (.int (0 : Int32)), .val (.int (1 : Int32)), .val (.ref sd), .val (.ref la), .val (.ref lb), .val (.ref lc), .val (.ref ld), .val .null, .val (.ref lc), .val (.int (1 : Int32))] [(.ref ld)]))
    refine own_st (fun t k => XS.aload X81.here hx rfl (hb hby at_278) rfl rfl k) ?_
    show OGo p e below s room_1 (OLawQ n0) (T81.setTop (mkF m 280 #[.val (.int q1), .val (.int (0 : Int32)), .val (.int (1 : Int32)), .val (.ref sd), .val (.ref la), .val (.ref lb), .val (.ref lc), .val (.ref ld), .val .null, .val (.ref lc), .val (.int (1 : Int32))] [(.ref ld), (.ref ld)]))
    refine own_st (fun t k => Jvm.RoadKit.acmp (g := (mkF m 280 #[.val (.int q1), .val (.int (0 : Int32)), .val (.int (1 : Int32)), .val (.ref sd), .val (.ref la), .val (.ref lb), .val (.ref lc), .val (.ref ld), .val .null, .val (.ref lc), .val (.int (1 : Int32))] [(.ref ld), (.ref ld)])) X81 hx rfl rfl rfl (pc0 := 280) (pc' := 283) (same := true) rfl (hb hby at_280) rfl (decide_eq_true rfl) (by decide) (by decide) k) ?_
    show OGo p e below s room_1 (OLawQ n0) (T81.setTop (mkF m 283 #[.val (.int q1), .val (.int (0 : Int32)), .val (.int (1 : Int32)), .val (.ref sd), .val (.ref la), .val (.ref lb), .val (.ref lc), .val (.ref ld), .val .null, .val (.ref lc), .val (.int (1 : Int32))] []))
    refine own_st (fun t k => XS.iconst X81.here hx rfl (hb hby at_283) k) ?_
    show OGo p e below s room_1 (OLawQ n0) (T81.setTop (mkF m 284 #[.val (.int q1), .val (.int (0 : Int32)), .val (.int (1 : Int32)), .val (.ref sd), .val (.ref la), .val (.ref lb), .val (.ref lc), .val (.ref ld), .val .null, .val (.ref lc), .val (.int (1 : Int32))] [(.int (1 : Int32))]))
    refine own_st (fun t k => XS.goto X81.here hx rfl (pc0 := 284) (pc' := 288) rfl (hb hby at_284) (by decide) (by decide) k) ?_
    show OGo p e below s room_1 (OLawQ n0) (T81.setTop (mkF m 288 #[.val (.int q1), .val (.int (0 : Int32)), .val (.int (1 : Int32)), .val (.ref sd), .val (.ref la), .val (.ref lb), .val (.ref lc), .val (.ref ld), .val .null, .val (.ref lc), .val (.int (1 : Int32))] [(.int (1 : Int32))]))
    refine own_st (fun t k => XS.istore X81.here hx rfl (hb hby at_288) rfl (l' := #[.val (.int q1), .val (.int (0 : Int32)), .val (.int (1 : Int32)), .val (.ref sd), .val (.ref la), .val (.ref lb), .val (.ref lc), .val (.ref ld), .val .null, .val (.ref lc), .val (.int (1 : Int32))]) rfl k) ?_
    show OGo p e below s room_1 (OLawQ n0) (T81.setTop (mkF m 290 #[.val (.int q1), .val (.int (0 : Int32)), .val (.int (1 : Int32)), .val (.ref sd), .val (.ref la), .val (.ref lb), .val (.ref lc), .val (.ref ld), .val .null, .val (.ref lc), .val (.int (1 : Int32))] []))
    refine own_st (fun t k => XS.aload X81.here hx rfl (hb hby at_290) rfl rfl k) ?_
    show OGo p e below s room_1 (OLawQ n0) (T81.setTop (mkF m 292 #[.val (.int q1), .val (.int (0 : Int32)), .val (.int (1 : Int32)), .val (.ref sd), .val (.ref la), .val (.ref lb), .val (.ref lc), .val (.ref ld), .val .null, .val (.ref lc), .val (.int (1 : Int32))] [(.ref lc)]))
    obtain ⟨_, T82, Lc82, X82, hQ82, st82⟩ := own_callV X81 hx hZ (y := (⟨"com/example/kurslot/kurslot/book/PriceLevel", "unlink", "()V"⟩ : MethodName)) (z := (⟨"com/example/kurslot/kurslot/book/PriceLevel", "unlink", "()V"⟩ : MethodName)) (W := 0) hown (hw _ (List.mem_of_getElem? (i := 35) rfl)) (hw _ (List.mem_of_getElem? (i := 36) rfl)) (notFace_of_selects (args := #[]) (mvT hZ (hw _ (List.mem_of_getElem? (i := 38) rfl)))) (hw _ (List.mem_of_getElem? (i := 38) rfl)) (hw _ (List.mem_of_getElem? (i := 37) rfl)) (hw _ (List.mem_of_getElem? (i := 39) rfl)) (hw _ (List.mem_of_getElem? (i := 5) rfl)) (by decide) (rm4_01 l Z a0 hw lc ld .null T79.heap n0 Z0 old_lc old_ld ne_lc_ld E_lc F_better_lc F_worse_lc E_ld F_better_ld F_worse_ld) (by decide) (by decide) E_lc (g := (mkF m 292 #[.val (.int q1), .val (.int (0 : Int32)), .val (.int (1 : Int32)), .val (.ref sd), .val (.ref la), .val (.ref lb), .val (.ref lc), .val (.ref ld), .val .null, .val (.ref lc), .val (.int (1 : Int32))] [(.ref lc)])) rfl (by rw [hml]; rfl) (argsL := []) (rest := []) (lenOf pd_2 rfl) rfl (by show 2 * 0 + _ ≤ _; exact Nat.le_of_eq rfl) (hb hby at_292) rfl e81 (by decide) (by decide)
    obtain ⟨rfl, Nq82, Kq82, q82_0, q82_1, q82_2, q82_3, q82_4, q82_5⟩ := hQ82
    have Z0 := Nat.le_trans Z0 Kq82.1
    have E_la := E_la.keep Kq82
    have F_better_la := F_better_la.keep Kq82 (ninS ne_la_lc (ninS ne_la_ld nin0))
    have F_worse_la := F_worse_la.keep Kq82 (ninS ne_la_lc (ninS ne_la_ld nin0))
    have E_lb := E_lb.keep Kq82
    have F_better_lb := F_better_lb.keep Kq82 (ninS ne_lb_lc (ninS ne_lb_ld nin0))
    have F_worse_lb := F_worse_lb.keep Kq82 (ninS ne_lb_lc (ninS ne_lb_ld nin0))
    have Nr82 := Fr.app Nr79 Nq82
    have E_lc := q82_0
    have F_better_lc := q82_1
    have F_worse_lc := q82_2
    have E_ld := q82_3
    have F_better_ld := q82_4
    have F_worse_ld := q82_5
    refine own_st st82 ?_
    show OGo p e below s room_1 (OLawQ n0) (T82.setTop (mkF m 295 #[.val (.int q1), .val (.int (0 : Int32)), .val (.int (1 : Int32)), .val (.ref sd), .val (.ref la), .val (.ref lb), .val (.ref lc), .val (.ref ld), .val .null, .val (.ref lc), .val (.int (1 : Int32))] []))
    refine own_st (fun t k => XS.iload X82.here hx rfl (hb hby at_295) rfl k) ?_
    show OGo p e below s room_1 (OLawQ n0) (T82.setTop (mkF m 297 #[.val (.int q1), .val (.int (0 : Int32)), .val (.int (1 : Int32)), .val (.ref sd), .val (.ref la), .val (.ref lb), .val (.ref lc), .val (.ref ld), .val .null, .val (.ref lc), .val (.int (1 : Int32))] [(.int (1 : Int32))]))
    refine own_st (fun t k => XS.ifNo X82.here hx rfl (hb hby at_297) rfl ((if0 _ _).trans (feq ((by decide : ¬ (1 : Int32) = (0 : Int32)))).1) k) ?_
    show OGo p e below s room_1 (OLawQ n0) (T82.setTop (mkF m 300 #[.val (.int q1), .val (.int (0 : Int32)), .val (.int (1 : Int32)), .val (.ref sd), .val (.ref la), .val (.ref lb), .val (.ref lc), .val (.ref ld), .val .null, .val (.ref lc), .val (.int (1 : Int32))] []))
    refine own_st (fun t k => XS.aload X82.here hx rfl (hb hby at_300) rfl rfl k) ?_
    show OGo p e below s room_1 (OLawQ n0) (T82.setTop (mkF m 302 #[.val (.int q1), .val (.int (0 : Int32)), .val (.int (1 : Int32)), .val (.ref sd), .val (.ref la), .val (.ref lb), .val (.ref lc), .val (.ref ld), .val .null, .val (.ref lc), .val (.int (1 : Int32))] [(.ref lb)]))
    obtain ⟨T83, X83, e83, st83⟩ := own_callVP X82 hx hZ (y := (⟨"com/example/kurslot/kurslot/book/PriceLevel", "worse", "()Lcom/example/kurslot/kurslot/book/PriceLevel;"⟩ : MethodName)) (z := (⟨"com/example/kurslot/kurslot/book/PriceLevel", "worse", "()Lcom/example/kurslot/kurslot/book/PriceLevel;"⟩ : MethodName)) (W := 0) hown (hw _ (List.mem_of_getElem? (i := 40) rfl)) (hw _ (List.mem_of_getElem? (i := 41) rfl)) (notFace_of_selects (args := #[]) (mvT hZ (hw _ (List.mem_of_getElem? (i := 43) rfl)))) (hw _ (List.mem_of_getElem? (i := 43) rfl)) (hw _ (List.mem_of_getElem? (i := 42) rfl)) (hw _ (List.mem_of_getElem? (i := 44) rfl)) (hw _ (List.mem_of_getElem? (i := 5) rfl)) (by decide) (rm5_0 l Z a0 hw lb T82.heap F_worse_lb) (by decide) (by decide) E_lb (g := (mkF m 302 #[.val (.int q1), .val (.int (0 : Int32)), .val (.int (1 : Int32)), .val (.ref sd), .val (.ref la), .val (.ref lb), .val (.ref lc), .val (.ref ld), .val .null, .val (.ref lc), .val (.int (1 : Int32))] [(.ref lb)])) rfl (by rw [hml]; rfl) (argsL := []) (rest := []) (lenOf pd_3 rfl) rfl (by show 2 * 0 + _ ≤ _; exact Nat.le_of_eq rfl) (hb hby at_302) rfl rfl (by decide) (by decide)
    refine own_st st83 ?_
    show OGo p e below s room_1 (OLawQ n0) (T83.setTop (mkF m 305 #[.val (.int q1), .val (.int (0 : Int32)), .val (.int (1 : Int32)), .val (.ref sd), .val (.ref la), .val (.ref lb), .val (.ref lc), .val (.ref ld), .val .null, .val (.ref lc), .val (.int (1 : Int32))] [.null]))
    refine own_st (fun t k => XS.ifnonnullNo X83.here hx rfl (hb hby at_305) rfl k) ?_
    show OGo p e below s room_1 (OLawQ n0) (T83.setTop (mkF m 308 #[.val (.int q1), .val (.int (0 : Int32)), .val (.int (1 : Int32)), .val (.ref sd), .val (.ref la), .val (.ref lb), .val (.ref lc), .val (.ref ld), .val .null, .val (.ref lc), .val (.int (1 : Int32))] []))
    refine own_st (fun t k => XS.aload X83.here hx rfl (hb hby at_308) rfl rfl k) ?_
    show OGo p e below s room_1 (OLawQ n0) (T83.setTop (mkF m 310 #[.val (.int q1), .val (.int (0 : Int32)), .val (.int (1 : Int32)), .val (.ref sd), .val (.ref la), .val (.ref lb), .val (.ref lc), .val (.ref ld), .val .null, .val (.ref lc), .val (.int (1 : Int32))] [(.ref lc)]))
    obtain ⟨T84, X84, e84, st84⟩ := own_callVP X83 hx hZ (y := (⟨"com/example/kurslot/kurslot/book/PriceLevel", "worse", "()Lcom/example/kurslot/kurslot/book/PriceLevel;"⟩ : MethodName)) (z := (⟨"com/example/kurslot/kurslot/book/PriceLevel", "worse", "()Lcom/example/kurslot/kurslot/book/PriceLevel;"⟩ : MethodName)) (W := 0) hown (hw _ (List.mem_of_getElem? (i := 40) rfl)) (hw _ (List.mem_of_getElem? (i := 41) rfl)) (notFace_of_selects (args := #[]) (mvT hZ (hw _ (List.mem_of_getElem? (i := 43) rfl)))) (hw _ (List.mem_of_getElem? (i := 43) rfl)) (hw _ (List.mem_of_getElem? (i := 42) rfl)) (hw _ (List.mem_of_getElem? (i := 44) rfl)) (hw _ (List.mem_of_getElem? (i := 5) rfl)) (by decide) (rm5_0 l Z a0 hw lc T82.heap F_worse_lc) (by decide) (by decide) E_lc (g := (mkF m 310 #[.val (.int q1), .val (.int (0 : Int32)), .val (.int (1 : Int32)), .val (.ref sd), .val (.ref la), .val (.ref lb), .val (.ref lc), .val (.ref ld), .val .null, .val (.ref lc), .val (.int (1 : Int32))] [(.ref lc)])) rfl (by rw [hml]; rfl) (argsL := []) (rest := []) (lenOf pd_3 rfl) rfl (by show 2 * 0 + _ ≤ _; exact Nat.le_of_eq rfl) (hb hby at_310) rfl e83 (by decide) (by decide)
    refine own_st st84 ?_
    show OGo p e below s room_1 (OLawQ n0) (T84.setTop (mkF m 313 #[.val (.int q1), .val (.int (0 : Int32)), .val (.int (1 : Int32)), .val (.ref sd), .val (.ref la), .val (.ref lb), .val (.ref lc), .val (.ref ld), .val .null, .val (.ref lc), .val (.int (1 : Int32))] [.null]))
    refine own_st (fun t k => XS.ifnonnullNo X84.here hx rfl (hb hby at_313) rfl k) ?_
    show OGo p e below s room_1 (OLawQ n0) (T84.setTop (mkF m 316 #[.val (.int q1), .val (.int (0 : Int32)), .val (.int (1 : Int32)), .val (.ref sd), .val (.ref la), .val (.ref lb), .val (.ref lc), .val (.ref ld), .val .null, .val (.ref lc), .val (.int (1 : Int32))] []))
    refine own_st (fun t k => XS.aload X84.here hx rfl (hb hby at_316) rfl rfl k) ?_
    show OGo p e below s room_1 (OLawQ n0) (T84.setTop (mkF m 318 #[.val (.int q1), .val (.int (0 : Int32)), .val (.int (1 : Int32)), .val (.ref sd), .val (.ref la), .val (.ref lb), .val (.ref lc), .val (.ref ld), .val .null, .val (.ref lc), .val (.int (1 : Int32))] [(.ref ld)]))
    obtain ⟨T85, X85, e85, st85⟩ := own_callVP X84 hx hZ (y := (⟨"com/example/kurslot/kurslot/book/PriceLevel", "worse", "()Lcom/example/kurslot/kurslot/book/PriceLevel;"⟩ : MethodName)) (z := (⟨"com/example/kurslot/kurslot/book/PriceLevel", "worse", "()Lcom/example/kurslot/kurslot/book/PriceLevel;"⟩ : MethodName)) (W := 0) hown (hw _ (List.mem_of_getElem? (i := 40) rfl)) (hw _ (List.mem_of_getElem? (i := 41) rfl)) (notFace_of_selects (args := #[]) (mvT hZ (hw _ (List.mem_of_getElem? (i := 43) rfl)))) (hw _ (List.mem_of_getElem? (i := 43) rfl)) (hw _ (List.mem_of_getElem? (i := 42) rfl)) (hw _ (List.mem_of_getElem? (i := 44) rfl)) (hw _ (List.mem_of_getElem? (i := 5) rfl)) (by decide) (rm5_0 l Z a0 hw ld T82.heap F_worse_ld) (by decide) (by decide) E_ld (g := (mkF m 318 #[.val (.int q1), .val (.int (0 : Int32)), .val (.int (1 : Int32)), .val (.ref sd), .val (.ref la), .val (.ref lb), .val (.ref lc), .val (.ref ld), .val .null, .val (.ref lc), .val (.int (1 : Int32))] [(.ref ld)])) rfl (by rw [hml]; rfl) (argsL := []) (rest := []) (lenOf pd_3 rfl) rfl (by show 2 * 0 + _ ≤ _; exact Nat.le_of_eq rfl) (hb hby at_318) rfl e84 (by decide) (by decide)
    refine own_st st85 ?_
    show OGo p e below s room_1 (OLawQ n0) (T85.setTop (mkF m 321 #[.val (.int q1), .val (.int (0 : Int32)), .val (.int (1 : Int32)), .val (.ref sd), .val (.ref la), .val (.ref lb), .val (.ref lc), .val (.ref ld), .val .null, .val (.ref lc), .val (.int (1 : Int32))] [.null]))
    refine own_st (fun t k => XS.ifnonnullNo X85.here hx rfl (hb hby at_321) rfl k) ?_
    show OGo p e below s room_1 (OLawQ n0) (T85.setTop (mkF m 324 #[.val (.int q1), .val (.int (0 : Int32)), .val (.int (1 : Int32)), .val (.ref sd), .val (.ref la), .val (.ref lb), .val (.ref lc), .val (.ref ld), .val .null, .val (.ref lc), .val (.int (1 : Int32))] []))
    refine own_st (fun t k => XS.iconst X85.here hx rfl (hb hby at_324) k) ?_
    show OGo p e below s room_1 (OLawQ n0) (T85.setTop (mkF m 325 #[.val (.int q1), .val (.int (0 : Int32)), .val (.int (1 : Int32)), .val (.ref sd), .val (.ref la), .val (.ref lb), .val (.ref lc), .val (.ref ld), .val .null, .val (.ref lc), .val (.int (1 : Int32))] [(.int (1 : Int32))]))
    refine own_st (fun t k => XS.goto X85.here hx rfl (pc0 := 325) (pc' := 329) rfl (hb hby at_325) (by decide) (by decide) k) ?_
    show OGo p e below s room_1 (OLawQ n0) (T85.setTop (mkF m 329 #[.val (.int q1), .val (.int (0 : Int32)), .val (.int (1 : Int32)), .val (.ref sd), .val (.ref la), .val (.ref lb), .val (.ref lc), .val (.ref ld), .val .null, .val (.ref lc), .val (.int (1 : Int32))] [(.int (1 : Int32))]))
    refine own_st (fun t k => XS.istore X85.here hx rfl (hb hby at_329) rfl (l' := #[.val (.int q1), .val (.int (0 : Int32)), .val (.int (1 : Int32)), .val (.ref sd), .val (.ref la), .val (.ref lb), .val (.ref lc), .val (.ref ld), .val .null, .val (.ref lc), .val (.int (1 : Int32))]) rfl k) ?_
    show OGo p e below s room_1 (OLawQ n0) (T85.setTop (mkF m 331 #[.val (.int q1), .val (.int (0 : Int32)), .val (.int (1 : Int32)), .val (.ref sd), .val (.ref la), .val (.ref lb), .val (.ref lc), .val (.ref ld), .val .null, .val (.ref lc), .val (.int (1 : Int32))] []))
    refine own_st (fun t k => XS.iloadN X85.here hx rfl (hb hby at_331) rfl k) ?_
    show OGo p e below s room_1 (OLawQ n0) (T85.setTop (mkF m 332 #[.val (.int q1), .val (.int (0 : Int32)), .val (.int (1 : Int32)), .val (.ref sd), .val (.ref la), .val (.ref lb), .val (.ref lc), .val (.ref ld), .val .null, .val (.ref lc), .val (.int (1 : Int32))] [(.int (0 : Int32))]))
    refine own_st (fun t k => XS.ifYes X85.here hx rfl (pc0 := 332) (pc' := 357) rfl (hb hby at_332) rfl ((if0 _ _).trans (teq ((by decide : (0 : Int32) = (0 : Int32)))).1) (by decide) (by decide) k) ?_
    show OGo p e below s room_1 (OLawQ n0) (T85.setTop (mkF m 357 #[.val (.int q1), .val (.int (0 : Int32)), .val (.int (1 : Int32)), .val (.ref sd), .val (.ref la), .val (.ref lb), .val (.ref lc), .val (.ref ld), .val .null, .val (.ref lc), .val (.int (1 : Int32))] []))
    refine own_st (fun t k => XS.iload X85.here hx rfl (hb hby at_357) rfl k) ?_
    show OGo p e below s room_1 (OLawQ n0) (T85.setTop (mkF m 359 #[.val (.int q1), .val (.int (0 : Int32)), .val (.int (1 : Int32)), .val (.ref sd), .val (.ref la), .val (.ref lb), .val (.ref lc), .val (.ref ld), .val .null, .val (.ref lc), .val (.int (1 : Int32))] [(.int (1 : Int32))]))
    exact own_retN X85 hx hlk (t := .boolean) hret (by simp) (hb hby at_359) (by decide) (by decide) (⟨rfl, Nr82⟩)
  have J10 : ∀ (T1 : State) (sd : Addr), Stand p l e room_1 s m #[(.int q1)] below meth c T1 [] 0 0 → T1.heap = h0 → OGo p e below s room_1 (OLawQ n0) (T1.setTop (mkF m 39 #[.val (.int q1), .val (.int (1 : Int32)), .val (.int (0 : Int32)), .unset, .unset, .unset, .unset, .unset, .unset, .unset, .unset] [(.ref sd)])) := by
    intro T1 sd X1 e1
    show OGo p e below s room_1 (OLawQ n0) (T1.setTop (mkF m 39 #[.val (.int q1), .val (.int (1 : Int32)), .val (.int (0 : Int32)), .unset, .unset, .unset, .unset, .unset, .unset, .unset, .unset] [(.ref sd)]))
    refine own_st (fun t k => XS.astoreN X1.here hx rfl (hb hby at_39) rfl rfl (l' := #[.val (.int q1), .val (.int (1 : Int32)), .val (.int (0 : Int32)), .val (.ref sd), .unset, .unset, .unset, .unset, .unset, .unset, .unset]) rfl k) ?_
    show OGo p e below s room_1 (OLawQ n0) (T1.setTop (mkF m 40 #[.val (.int q1), .val (.int (1 : Int32)), .val (.int (0 : Int32)), .val (.ref sd), .unset, .unset, .unset, .unset, .unset, .unset, .unset] []))
    obtain ⟨T86, hp86, X86, e86, Ex86, Aa86, Dd86, -, st86⟩ := newO X1 hx hZ hown (hw _ (List.mem_of_getElem? (i := 3) rfl)) (hw _ (List.mem_of_getElem? (i := 4) rfl)) (hw _ (List.mem_of_getElem? (i := 5) rfl)) e1 (g := (mkF m 40 #[.val (.int q1), .val (.int (1 : Int32)), .val (.int (0 : Int32)), .val (.ref sd), .unset, .unset, .unset, .unset, .unset, .unset, .unset] [])) rfl (hb hby at_40) (by decide) (by decide)
    obtain ⟨la, gs86⟩ : ∃ z, z = h0.size := ⟨_, rfl⟩
    rw [← gs86] at Aa86 Dd86 st86
    have old_la : n0 ≤ la := Nat.le_trans Z0 (Nat.le_of_eq gs86.symm)
    have Z0 := Nat.le_trans Z0 Ex86.1
    have E_la := Aa86
    have F_first_la : Fld Z hp86 la "com/example/kurslot/kurslot/book/PriceLevel" "first" "I" (.int (0 : Int32)) := Dd86 (Or.inl (hw _ (List.mem_of_getElem? (i := 14) rfl))) (ty := .int) (by decide)
    have F_last_la : Fld Z hp86 la "com/example/kurslot/kurslot/book/PriceLevel" "last" "I" (.int (0 : Int32)) := Dd86 (Or.inl (hw _ (List.mem_of_getElem? (i := 16) rfl))) (ty := .int) (by decide)
    have F_book_la : Fld Z hp86 la "com/example/kurslot/kurslot/book/PriceLevel" "book" "Lcom/example/kurslot/kurslot/book/OrderBook;" .null := Dd86 (Or.inr (hw _ (List.mem_of_getElem? (i := 18) rfl))) (ty := (.object "com/example/kurslot/kurslot/book/OrderBook")) (by decide)
    have F_side_la : Fld Z hp86 la "com/example/kurslot/kurslot/book/PriceLevel" "side" "Lcom/example/kurslot/kurslot/book/Side;" .null := Dd86 (Or.inr (hw _ (List.mem_of_getElem? (i := 20) rfl))) (ty := (.object "com/example/kurslot/kurslot/book/Side")) (by decide)
    have F_price_la : Fld Z hp86 la "com/example/kurslot/kurslot/book/PriceLevel" "price" "J" (.long (0 : Int64)) := Dd86 (Or.inr (hw _ (List.mem_of_getElem? (i := 22) rfl))) (ty := .long) (by decide)
    have F_number_la : Fld Z hp86 la "com/example/kurslot/kurslot/book/PriceLevel" "number" "I" (.int (0 : Int32)) := Dd86 (Or.inr (hw _ (List.mem_of_getElem? (i := 24) rfl))) (ty := .int) (by decide)
    have F_better_la : Fld Z hp86 la "com/example/kurslot/kurslot/book/PriceLevel" "better" "Lcom/example/kurslot/kurslot/book/PriceLevel;" .null := Dd86 (Or.inl (hw _ (List.mem_of_getElem? (i := 32) rfl))) (ty := (.object "com/example/kurslot/kurslot/book/PriceLevel")) (by decide)
    have F_worse_la : Fld Z hp86 la "com/example/kurslot/kurslot/book/PriceLevel" "worse" "Lcom/example/kurslot/kurslot/book/PriceLevel;" .null := Dd86 (Or.inl (hw _ (List.mem_of_getElem? (i := 34) rfl))) (ty := (.object "com/example/kurslot/kurslot/book/PriceLevel")) (by decide)
    refine own_st st86 ?_
    show OGo p e below s room_1 (OLawQ n0) (T86.setTop (mkF m 43 #[.val (.int q1), .val (.int (1 : Int32)), .val (.int (0 : Int32)), .val (.ref sd), .unset, .unset, .unset, .unset, .unset, .unset, .unset] [(.ref la)]))
    refine own_st (fun t k => XS.dup X86.here hx rfl (hb hby at_43) rfl rfl k) ?_
    show OGo p e below s room_1 (OLawQ n0) (T86.setTop (mkF m 44 #[.val (.int q1), .val (.int (1 : Int32)), .val (.int (0 : Int32)), .val (.ref sd), .unset, .unset, .unset, .unset, .unset, .unset, .unset] [(.ref la), (.ref la)]))
    refine own_st (fun t k => XS.aconstNull X86.here hx rfl (hb hby at_44) k) ?_
    show OGo p e below s room_1 (OLawQ n0) (T86.setTop (mkF m 45 #[.val (.int q1), .val (.int (1 : Int32)), .val (.int (0 : Int32)), .val (.ref sd), .unset, .unset, .unset, .unset, .unset, .unset, .unset] [.null, (.ref la), (.ref la)]))
    refine own_st (fun t k => XS.aloadN X86.here hx rfl (hb hby at_45) rfl rfl k) ?_
    show OGo p e below s room_1 (OLawQ n0) (T86.setTop (mkF m 46 #[.val (.int q1), .val (.int (1 : Int32)), .val (.int (0 : Int32)), .val (.ref sd), .unset, .unset, .unset, .unset, .unset, .unset, .unset] [(.ref sd), .null, (.ref la), (.ref la)]))
    refine own_st (X86.ldc2Long hx hown (mvT hZ (hw _ (List.mem_of_getElem? (i := 6) rfl))) (g := (mkF m 46 #[.val (.int q1), .val (.int (1 : Int32)), .val (.int (0 : Int32)), .val (.ref sd), .unset, .unset, .unset, .unset, .unset, .unset, .unset] [(.ref sd), .null, (.ref la), (.ref la)])) rfl (hb hby at_46)) ?_
    show OGo p e below s room_1 (OLawQ n0) (T86.setTop (mkF m 49 #[.val (.int q1), .val (.int (1 : Int32)), .val (.int (0 : Int32)), .val (.ref sd), .unset, .unset, .unset, .unset, .unset, .unset, .unset] [(.long (3 : Int64)), (.ref sd), .null, (.ref la), (.ref la)]))
    refine own_st (fun t k => XS.iconst X86.here hx rfl (hb hby at_49) k) ?_
    show OGo p e below s room_1 (OLawQ n0) (T86.setTop (mkF m 50 #[.val (.int q1), .val (.int (1 : Int32)), .val (.int (0 : Int32)), .val (.ref sd), .unset, .unset, .unset, .unset, .unset, .unset, .unset] [(.int (0 : Int32)), (.long (3 : Int64)), (.ref sd), .null, (.ref la), (.ref la)]))
    obtain ⟨_, T87, Lc87, X87, hQ87, st87⟩ := own_callI X86 hx hZ (y := (⟨"com/example/kurslot/kurslot/book/PriceLevel", "<init>", "(Lcom/example/kurslot/kurslot/book/OrderBook;Lcom/example/kurslot/kurslot/book/Side;JI)V"⟩ : MethodName)) (W := 1) rfl hown (hw _ (List.mem_of_getElem? (i := 7) rfl)) (hw _ (List.mem_of_getElem? (i := 8) rfl)) (hw _ (List.mem_of_getElem? (i := 9) rfl)) (hw _ (List.mem_of_getElem? (i := 5) rfl)) (by decide) (rm1 l Z a0 hw la sd (3 : Int64) (0 : Int32) hp86 n0 Z0 old_la E_la F_better_la F_worse_la F_first_la F_last_la F_book_la F_side_la F_price_la F_number_la) (by decide) (by decide) (a := la) (g := (mkF m 50 #[.val (.int q1), .val (.int (1 : Int32)), .val (.int (0 : Int32)), .val (.ref sd), .unset, .unset, .unset, .unset, .unset, .unset, .unset] [(.int (0 : Int32)), (.long (3 : Int64)), (.ref sd), .null, (.ref la), (.ref la)])) rfl (by rw [hml]; rfl) (argsL := [.null, (.ref sd), (.long (3 : Int64)), (.int (0 : Int32))]) (rest := [(.ref la)]) (lenOf pd_0 rfl) rfl (by show 2 * 0 + _ ≤ _; exact Nat.le_of_eq rfl) (hb hby at_50) rfl e86 (by decide) (by decide)
    obtain ⟨rfl, Nq87, Kq87, q87_0, q87_1, q87_2⟩ := hQ87
    have Z0 := Nat.le_trans Z0 Kq87.1
    have Nr87 := Fr.app N0 Nq87
    have E_la := q87_0
    have F_better_la := q87_1
    have F_worse_la := q87_2
    refine own_st st87 ?_
    show OGo p e below s room_1 (OLawQ n0) (T87.setTop (mkF m 53 #[.val (.int q1), .val (.int (1 : Int32)), .val (.int (0 : Int32)), .val (.ref sd), .unset, .unset, .unset, .unset, .unset, .unset, .unset] [(.ref la)]))
    refine own_st (fun t k => XS.astore X87.here hx rfl (hb hby at_53) rfl rfl (l' := #[.val (.int q1), .val (.int (1 : Int32)), .val (.int (0 : Int32)), .val (.ref sd), .val (.ref la), .unset, .unset, .unset, .unset, .unset, .unset]) rfl k) ?_
    show OGo p e below s room_1 (OLawQ n0) (T87.setTop (mkF m 55 #[.val (.int q1), .val (.int (1 : Int32)), .val (.int (0 : Int32)), .val (.ref sd), .val (.ref la), .unset, .unset, .unset, .unset, .unset, .unset] []))
    obtain ⟨T88, hp88, X88, e88, Ex88, Aa88, Dd88, -, st88⟩ := newO X87 hx hZ hown (hw _ (List.mem_of_getElem? (i := 3) rfl)) (hw _ (List.mem_of_getElem? (i := 4) rfl)) (hw _ (List.mem_of_getElem? (i := 5) rfl)) rfl (g := (mkF m 55 #[.val (.int q1), .val (.int (1 : Int32)), .val (.int (0 : Int32)), .val (.ref sd), .val (.ref la), .unset, .unset, .unset, .unset, .unset, .unset] [])) rfl (hb hby at_55) (by decide) (by decide)
    obtain ⟨lb, gs88⟩ : ∃ z, z = T87.heap.size := ⟨_, rfl⟩
    rw [← gs88] at Aa88 Dd88 st88
    have ne_la_lb : la ≠ lb := Nat.ne_of_lt (Nat.lt_of_lt_of_le E_la.lt (Nat.le_of_eq gs88.symm))
    have old_lb : n0 ≤ lb := Nat.le_trans Z0 (Nat.le_of_eq gs88.symm)
    have Z0 := Nat.le_trans Z0 Ex88.1
    have E_la := E_la.ext Ex88
    have F_better_la := F_better_la.ext Ex88
    have F_worse_la := F_worse_la.ext Ex88
    have E_lb := Aa88
    have F_first_lb : Fld Z hp88 lb "com/example/kurslot/kurslot/book/PriceLevel" "first" "I" (.int (0 : Int32)) := Dd88 (Or.inl (hw _ (List.mem_of_getElem? (i := 14) rfl))) (ty := .int) (by decide)
    have F_last_lb : Fld Z hp88 lb "com/example/kurslot/kurslot/book/PriceLevel" "last" "I" (.int (0 : Int32)) := Dd88 (Or.inl (hw _ (List.mem_of_getElem? (i := 16) rfl))) (ty := .int) (by decide)
    have F_book_lb : Fld Z hp88 lb "com/example/kurslot/kurslot/book/PriceLevel" "book" "Lcom/example/kurslot/kurslot/book/OrderBook;" .null := Dd88 (Or.inr (hw _ (List.mem_of_getElem? (i := 18) rfl))) (ty := (.object "com/example/kurslot/kurslot/book/OrderBook")) (by decide)
    have F_side_lb : Fld Z hp88 lb "com/example/kurslot/kurslot/book/PriceLevel" "side" "Lcom/example/kurslot/kurslot/book/Side;" .null := Dd88 (Or.inr (hw _ (List.mem_of_getElem? (i := 20) rfl))) (ty := (.object "com/example/kurslot/kurslot/book/Side")) (by decide)
    have F_price_lb : Fld Z hp88 lb "com/example/kurslot/kurslot/book/PriceLevel" "price" "J" (.long (0 : Int64)) := Dd88 (Or.inr (hw _ (List.mem_of_getElem? (i := 22) rfl))) (ty := .long) (by decide)
    have F_number_lb : Fld Z hp88 lb "com/example/kurslot/kurslot/book/PriceLevel" "number" "I" (.int (0 : Int32)) := Dd88 (Or.inr (hw _ (List.mem_of_getElem? (i := 24) rfl))) (ty := .int) (by decide)
    have F_better_lb : Fld Z hp88 lb "com/example/kurslot/kurslot/book/PriceLevel" "better" "Lcom/example/kurslot/kurslot/book/PriceLevel;" .null := Dd88 (Or.inl (hw _ (List.mem_of_getElem? (i := 32) rfl))) (ty := (.object "com/example/kurslot/kurslot/book/PriceLevel")) (by decide)
    have F_worse_lb : Fld Z hp88 lb "com/example/kurslot/kurslot/book/PriceLevel" "worse" "Lcom/example/kurslot/kurslot/book/PriceLevel;" .null := Dd88 (Or.inl (hw _ (List.mem_of_getElem? (i := 34) rfl))) (ty := (.object "com/example/kurslot/kurslot/book/PriceLevel")) (by decide)
    refine own_st st88 ?_
    show OGo p e below s room_1 (OLawQ n0) (T88.setTop (mkF m 58 #[.val (.int q1), .val (.int (1 : Int32)), .val (.int (0 : Int32)), .val (.ref sd), .val (.ref la), .unset, .unset, .unset, .unset, .unset, .unset] [(.ref lb)]))
    refine own_st (fun t k => XS.dup X88.here hx rfl (hb hby at_58) rfl rfl k) ?_
    show OGo p e below s room_1 (OLawQ n0) (T88.setTop (mkF m 59 #[.val (.int q1), .val (.int (1 : Int32)), .val (.int (0 : Int32)), .val (.ref sd), .val (.ref la), .unset, .unset, .unset, .unset, .unset, .unset] [(.ref lb), (.ref lb)]))
    refine own_st (fun t k => XS.aconstNull X88.here hx rfl (hb hby at_59) k) ?_
    show OGo p e below s room_1 (OLawQ n0) (T88.setTop (mkF m 60 #[.val (.int q1), .val (.int (1 : Int32)), .val (.int (0 : Int32)), .val (.ref sd), .val (.ref la), .unset, .unset, .unset, .unset, .unset, .unset] [.null, (.ref lb), (.ref lb)]))
    refine own_st (fun t k => XS.aloadN X88.here hx rfl (hb hby at_60) rfl rfl k) ?_
    show OGo p e below s room_1 (OLawQ n0) (T88.setTop (mkF m 61 #[.val (.int q1), .val (.int (1 : Int32)), .val (.int (0 : Int32)), .val (.ref sd), .val (.ref la), .unset, .unset, .unset, .unset, .unset, .unset] [(.ref sd), .null, (.ref lb), (.ref lb)]))
    refine own_st (X88.ldc2Long hx hown (mvT hZ (hw _ (List.mem_of_getElem? (i := 25) rfl))) (g := (mkF m 61 #[.val (.int q1), .val (.int (1 : Int32)), .val (.int (0 : Int32)), .val (.ref sd), .val (.ref la), .unset, .unset, .unset, .unset, .unset, .unset] [(.ref sd), .null, (.ref lb), (.ref lb)])) rfl (hb hby at_61)) ?_
    show OGo p e below s room_1 (OLawQ n0) (T88.setTop (mkF m 64 #[.val (.int q1), .val (.int (1 : Int32)), .val (.int (0 : Int32)), .val (.ref sd), .val (.ref la), .unset, .unset, .unset, .unset, .unset, .unset] [(.long (2 : Int64)), (.ref sd), .null, (.ref lb), (.ref lb)]))
    refine own_st (fun t k => XS.iconst X88.here hx rfl (hb hby at_64) k) ?_
    show OGo p e below s room_1 (OLawQ n0) (T88.setTop (mkF m 65 #[.val (.int q1), .val (.int (1 : Int32)), .val (.int (0 : Int32)), .val (.ref sd), .val (.ref la), .unset, .unset, .unset, .unset, .unset, .unset] [(.int (1 : Int32)), (.long (2 : Int64)), (.ref sd), .null, (.ref lb), (.ref lb)]))
    obtain ⟨_, T89, Lc89, X89, hQ89, st89⟩ := own_callI X88 hx hZ (y := (⟨"com/example/kurslot/kurslot/book/PriceLevel", "<init>", "(Lcom/example/kurslot/kurslot/book/OrderBook;Lcom/example/kurslot/kurslot/book/Side;JI)V"⟩ : MethodName)) (W := 1) rfl hown (hw _ (List.mem_of_getElem? (i := 7) rfl)) (hw _ (List.mem_of_getElem? (i := 8) rfl)) (hw _ (List.mem_of_getElem? (i := 9) rfl)) (hw _ (List.mem_of_getElem? (i := 5) rfl)) (by decide) (rm1 l Z a0 hw lb sd (2 : Int64) (1 : Int32) hp88 n0 Z0 old_lb E_lb F_better_lb F_worse_lb F_first_lb F_last_lb F_book_lb F_side_lb F_price_lb F_number_lb) (by decide) (by decide) (a := lb) (g := (mkF m 65 #[.val (.int q1), .val (.int (1 : Int32)), .val (.int (0 : Int32)), .val (.ref sd), .val (.ref la), .unset, .unset, .unset, .unset, .unset, .unset] [(.int (1 : Int32)), (.long (2 : Int64)), (.ref sd), .null, (.ref lb), (.ref lb)])) rfl (by rw [hml]; rfl) (argsL := [.null, (.ref sd), (.long (2 : Int64)), (.int (1 : Int32))]) (rest := [(.ref lb)]) (lenOf pd_0 rfl) rfl (by show 2 * 0 + _ ≤ _; exact Nat.le_of_eq rfl) (hb hby at_65) rfl e88 (by decide) (by decide)
    obtain ⟨rfl, Nq89, Kq89, q89_0, q89_1, q89_2⟩ := hQ89
    have Z0 := Nat.le_trans Z0 Kq89.1
    have E_la := E_la.keep Kq89
    have F_better_la := F_better_la.keep Kq89 (ninS ne_la_lb nin0)
    have F_worse_la := F_worse_la.keep Kq89 (ninS ne_la_lb nin0)
    have Nr89 := Fr.app Nr87 Nq89
    have E_lb := q89_0
    have F_better_lb := q89_1
    have F_worse_lb := q89_2
    refine own_st st89 ?_
    show OGo p e below s room_1 (OLawQ n0) (T89.setTop (mkF m 68 #[.val (.int q1), .val (.int (1 : Int32)), .val (.int (0 : Int32)), .val (.ref sd), .val (.ref la), .unset, .unset, .unset, .unset, .unset, .unset] [(.ref lb)]))
    refine own_st (fun t k => XS.astore X89.here hx rfl (hb hby at_68) rfl rfl (l' := #[.val (.int q1), .val (.int (1 : Int32)), .val (.int (0 : Int32)), .val (.ref sd), .val (.ref la), .val (.ref lb), .unset, .unset, .unset, .unset, .unset]) rfl k) ?_
    show OGo p e below s room_1 (OLawQ n0) (T89.setTop (mkF m 70 #[.val (.int q1), .val (.int (1 : Int32)), .val (.int (0 : Int32)), .val (.ref sd), .val (.ref la), .val (.ref lb), .unset, .unset, .unset, .unset, .unset] []))
    obtain ⟨T90, hp90, X90, e90, Ex90, Aa90, Dd90, -, st90⟩ := newO X89 hx hZ hown (hw _ (List.mem_of_getElem? (i := 3) rfl)) (hw _ (List.mem_of_getElem? (i := 4) rfl)) (hw _ (List.mem_of_getElem? (i := 5) rfl)) rfl (g := (mkF m 70 #[.val (.int q1), .val (.int (1 : Int32)), .val (.int (0 : Int32)), .val (.ref sd), .val (.ref la), .val (.ref lb), .unset, .unset, .unset, .unset, .unset] [])) rfl (hb hby at_70) (by decide) (by decide)
    obtain ⟨lc, gs90⟩ : ∃ z, z = T89.heap.size := ⟨_, rfl⟩
    rw [← gs90] at Aa90 Dd90 st90
    have ne_la_lc : la ≠ lc := Nat.ne_of_lt (Nat.lt_of_lt_of_le E_la.lt (Nat.le_of_eq gs90.symm))
    have ne_lb_lc : lb ≠ lc := Nat.ne_of_lt (Nat.lt_of_lt_of_le E_lb.lt (Nat.le_of_eq gs90.symm))
    have old_lc : n0 ≤ lc := Nat.le_trans Z0 (Nat.le_of_eq gs90.symm)
    have Z0 := Nat.le_trans Z0 Ex90.1
    have E_la := E_la.ext Ex90
    have F_better_la := F_better_la.ext Ex90
    have F_worse_la := F_worse_la.ext Ex90
    have E_lb := E_lb.ext Ex90
    have F_better_lb := F_better_lb.ext Ex90
    have F_worse_lb := F_worse_lb.ext Ex90
    have E_lc := Aa90
    have F_first_lc : Fld Z hp90 lc "com/example/kurslot/kurslot/book/PriceLevel" "first" "I" (.int (0 : Int32)) := Dd90 (Or.inl (hw _ (List.mem_of_getElem? (i := 14) rfl))) (ty := .int) (by decide)
    have F_last_lc : Fld Z hp90 lc "com/example/kurslot/kurslot/book/PriceLevel" "last" "I" (.int (0 : Int32)) := Dd90 (Or.inl (hw _ (List.mem_of_getElem? (i := 16) rfl))) (ty := .int) (by decide)
    have F_book_lc : Fld Z hp90 lc "com/example/kurslot/kurslot/book/PriceLevel" "book" "Lcom/example/kurslot/kurslot/book/OrderBook;" .null := Dd90 (Or.inr (hw _ (List.mem_of_getElem? (i := 18) rfl))) (ty := (.object "com/example/kurslot/kurslot/book/OrderBook")) (by decide)
    have F_side_lc : Fld Z hp90 lc "com/example/kurslot/kurslot/book/PriceLevel" "side" "Lcom/example/kurslot/kurslot/book/Side;" .null := Dd90 (Or.inr (hw _ (List.mem_of_getElem? (i := 20) rfl))) (ty := (.object "com/example/kurslot/kurslot/book/Side")) (by decide)
    have F_price_lc : Fld Z hp90 lc "com/example/kurslot/kurslot/book/PriceLevel" "price" "J" (.long (0 : Int64)) := Dd90 (Or.inr (hw _ (List.mem_of_getElem? (i := 22) rfl))) (ty := .long) (by decide)
    have F_number_lc : Fld Z hp90 lc "com/example/kurslot/kurslot/book/PriceLevel" "number" "I" (.int (0 : Int32)) := Dd90 (Or.inr (hw _ (List.mem_of_getElem? (i := 24) rfl))) (ty := .int) (by decide)
    have F_better_lc : Fld Z hp90 lc "com/example/kurslot/kurslot/book/PriceLevel" "better" "Lcom/example/kurslot/kurslot/book/PriceLevel;" .null := Dd90 (Or.inl (hw _ (List.mem_of_getElem? (i := 32) rfl))) (ty := (.object "com/example/kurslot/kurslot/book/PriceLevel")) (by decide)
    have F_worse_lc : Fld Z hp90 lc "com/example/kurslot/kurslot/book/PriceLevel" "worse" "Lcom/example/kurslot/kurslot/book/PriceLevel;" .null := Dd90 (Or.inl (hw _ (List.mem_of_getElem? (i := 34) rfl))) (ty := (.object "com/example/kurslot/kurslot/book/PriceLevel")) (by decide)
    refine own_st st90 ?_
    show OGo p e below s room_1 (OLawQ n0) (T90.setTop (mkF m 73 #[.val (.int q1), .val (.int (1 : Int32)), .val (.int (0 : Int32)), .val (.ref sd), .val (.ref la), .val (.ref lb), .unset, .unset, .unset, .unset, .unset] [(.ref lc)]))
    refine own_st (fun t k => XS.dup X90.here hx rfl (hb hby at_73) rfl rfl k) ?_
    show OGo p e below s room_1 (OLawQ n0) (T90.setTop (mkF m 74 #[.val (.int q1), .val (.int (1 : Int32)), .val (.int (0 : Int32)), .val (.ref sd), .val (.ref la), .val (.ref lb), .unset, .unset, .unset, .unset, .unset] [(.ref lc), (.ref lc)]))
    refine own_st (fun t k => XS.aconstNull X90.here hx rfl (hb hby at_74) k) ?_
    show OGo p e below s room_1 (OLawQ n0) (T90.setTop (mkF m 75 #[.val (.int q1), .val (.int (1 : Int32)), .val (.int (0 : Int32)), .val (.ref sd), .val (.ref la), .val (.ref lb), .unset, .unset, .unset, .unset, .unset] [.null, (.ref lc), (.ref lc)]))
    refine own_st (fun t k => XS.aloadN X90.here hx rfl (hb hby at_75) rfl rfl k) ?_
    show OGo p e below s room_1 (OLawQ n0) (T90.setTop (mkF m 76 #[.val (.int q1), .val (.int (1 : Int32)), .val (.int (0 : Int32)), .val (.ref sd), .val (.ref la), .val (.ref lb), .unset, .unset, .unset, .unset, .unset] [(.ref sd), .null, (.ref lc), (.ref lc)]))
    refine own_st (fun t k => XS.lconst X90.here hx rfl (hb hby at_76) k) ?_
    show OGo p e below s room_1 (OLawQ n0) (T90.setTop (mkF m 77 #[.val (.int q1), .val (.int (1 : Int32)), .val (.int (0 : Int32)), .val (.ref sd), .val (.ref la), .val (.ref lb), .unset, .unset, .unset, .unset, .unset] [(.long (1 : Int64)), (.ref sd), .null, (.ref lc), (.ref lc)]))
    refine own_st (fun t k => XS.iconst X90.here hx rfl (hb hby at_77) k) ?_
    show OGo p e below s room_1 (OLawQ n0) (T90.setTop (mkF m 78 #[.val (.int q1), .val (.int (1 : Int32)), .val (.int (0 : Int32)), .val (.ref sd), .val (.ref la), .val (.ref lb), .unset, .unset, .unset, .unset, .unset] [(.int (2 : Int32)), (.long (1 : Int64)), (.ref sd), .null, (.ref lc), (.ref lc)]))
    obtain ⟨_, T91, Lc91, X91, hQ91, st91⟩ := own_callI X90 hx hZ (y := (⟨"com/example/kurslot/kurslot/book/PriceLevel", "<init>", "(Lcom/example/kurslot/kurslot/book/OrderBook;Lcom/example/kurslot/kurslot/book/Side;JI)V"⟩ : MethodName)) (W := 1) rfl hown (hw _ (List.mem_of_getElem? (i := 7) rfl)) (hw _ (List.mem_of_getElem? (i := 8) rfl)) (hw _ (List.mem_of_getElem? (i := 9) rfl)) (hw _ (List.mem_of_getElem? (i := 5) rfl)) (by decide) (rm1 l Z a0 hw lc sd (1 : Int64) (2 : Int32) hp90 n0 Z0 old_lc E_lc F_better_lc F_worse_lc F_first_lc F_last_lc F_book_lc F_side_lc F_price_lc F_number_lc) (by decide) (by decide) (a := lc) (g := (mkF m 78 #[.val (.int q1), .val (.int (1 : Int32)), .val (.int (0 : Int32)), .val (.ref sd), .val (.ref la), .val (.ref lb), .unset, .unset, .unset, .unset, .unset] [(.int (2 : Int32)), (.long (1 : Int64)), (.ref sd), .null, (.ref lc), (.ref lc)])) rfl (by rw [hml]; rfl) (argsL := [.null, (.ref sd), (.long (1 : Int64)), (.int (2 : Int32))]) (rest := [(.ref lc)]) (lenOf pd_0 rfl) rfl (by show 2 * 0 + _ ≤ _; exact Nat.le_of_eq rfl) (hb hby at_78) rfl e90 (by decide) (by decide)
    obtain ⟨rfl, Nq91, Kq91, q91_0, q91_1, q91_2⟩ := hQ91
    have Z0 := Nat.le_trans Z0 Kq91.1
    have E_la := E_la.keep Kq91
    have F_better_la := F_better_la.keep Kq91 (ninS ne_la_lc nin0)
    have F_worse_la := F_worse_la.keep Kq91 (ninS ne_la_lc nin0)
    have E_lb := E_lb.keep Kq91
    have F_better_lb := F_better_lb.keep Kq91 (ninS ne_lb_lc nin0)
    have F_worse_lb := F_worse_lb.keep Kq91 (ninS ne_lb_lc nin0)
    have Nr91 := Fr.app Nr89 Nq91
    have E_lc := q91_0
    have F_better_lc := q91_1
    have F_worse_lc := q91_2
    refine own_st st91 ?_
    show OGo p e below s room_1 (OLawQ n0) (T91.setTop (mkF m 81 #[.val (.int q1), .val (.int (1 : Int32)), .val (.int (0 : Int32)), .val (.ref sd), .val (.ref la), .val (.ref lb), .unset, .unset, .unset, .unset, .unset] [(.ref lc)]))
    refine own_st (fun t k => XS.astore X91.here hx rfl (hb hby at_81) rfl rfl (l' := #[.val (.int q1), .val (.int (1 : Int32)), .val (.int (0 : Int32)), .val (.ref sd), .val (.ref la), .val (.ref lb), .val (.ref lc), .unset, .unset, .unset, .unset]) rfl k) ?_
    show OGo p e below s room_1 (OLawQ n0) (T91.setTop (mkF m 83 #[.val (.int q1), .val (.int (1 : Int32)), .val (.int (0 : Int32)), .val (.ref sd), .val (.ref la), .val (.ref lb), .val (.ref lc), .unset, .unset, .unset, .unset] []))
    obtain ⟨T92, hp92, X92, e92, Ex92, Aa92, Dd92, -, st92⟩ := newO X91 hx hZ hown (hw _ (List.mem_of_getElem? (i := 3) rfl)) (hw _ (List.mem_of_getElem? (i := 4) rfl)) (hw _ (List.mem_of_getElem? (i := 5) rfl)) rfl (g := (mkF m 83 #[.val (.int q1), .val (.int (1 : Int32)), .val (.int (0 : Int32)), .val (.ref sd), .val (.ref la), .val (.ref lb), .val (.ref lc), .unset, .unset, .unset, .unset] [])) rfl (hb hby at_83) (by decide) (by decide)
    obtain ⟨ld, gs92⟩ : ∃ z, z = T91.heap.size := ⟨_, rfl⟩
    rw [← gs92] at Aa92 Dd92 st92
    have ne_la_ld : la ≠ ld := Nat.ne_of_lt (Nat.lt_of_lt_of_le E_la.lt (Nat.le_of_eq gs92.symm))
    have ne_lb_ld : lb ≠ ld := Nat.ne_of_lt (Nat.lt_of_lt_of_le E_lb.lt (Nat.le_of_eq gs92.symm))
    have ne_lc_ld : lc ≠ ld := Nat.ne_of_lt (Nat.lt_of_lt_of_le E_lc.lt (Nat.le_of_eq gs92.symm))
    have old_ld : n0 ≤ ld := Nat.le_trans Z0 (Nat.le_of_eq gs92.symm)
    have Z0 := Nat.le_trans Z0 Ex92.1
    have E_la := E_la.ext Ex92
    have F_better_la := F_better_la.ext Ex92
    have F_worse_la := F_worse_la.ext Ex92
    have E_lb := E_lb.ext Ex92
    have F_better_lb := F_better_lb.ext Ex92
    have F_worse_lb := F_worse_lb.ext Ex92
    have E_lc := E_lc.ext Ex92
    have F_better_lc := F_better_lc.ext Ex92
    have F_worse_lc := F_worse_lc.ext Ex92
    have E_ld := Aa92
    have F_first_ld : Fld Z hp92 ld "com/example/kurslot/kurslot/book/PriceLevel" "first" "I" (.int (0 : Int32)) := Dd92 (Or.inl (hw _ (List.mem_of_getElem? (i := 14) rfl))) (ty := .int) (by decide)
    have F_last_ld : Fld Z hp92 ld "com/example/kurslot/kurslot/book/PriceLevel" "last" "I" (.int (0 : Int32)) := Dd92 (Or.inl (hw _ (List.mem_of_getElem? (i := 16) rfl))) (ty := .int) (by decide)
    have F_book_ld : Fld Z hp92 ld "com/example/kurslot/kurslot/book/PriceLevel" "book" "Lcom/example/kurslot/kurslot/book/OrderBook;" .null := Dd92 (Or.inr (hw _ (List.mem_of_getElem? (i := 18) rfl))) (ty := (.object "com/example/kurslot/kurslot/book/OrderBook")) (by decide)
    have F_side_ld : Fld Z hp92 ld "com/example/kurslot/kurslot/book/PriceLevel" "side" "Lcom/example/kurslot/kurslot/book/Side;" .null := Dd92 (Or.inr (hw _ (List.mem_of_getElem? (i := 20) rfl))) (ty := (.object "com/example/kurslot/kurslot/book/Side")) (by decide)
    have F_price_ld : Fld Z hp92 ld "com/example/kurslot/kurslot/book/PriceLevel" "price" "J" (.long (0 : Int64)) := Dd92 (Or.inr (hw _ (List.mem_of_getElem? (i := 22) rfl))) (ty := .long) (by decide)
    have F_number_ld : Fld Z hp92 ld "com/example/kurslot/kurslot/book/PriceLevel" "number" "I" (.int (0 : Int32)) := Dd92 (Or.inr (hw _ (List.mem_of_getElem? (i := 24) rfl))) (ty := .int) (by decide)
    have F_better_ld : Fld Z hp92 ld "com/example/kurslot/kurslot/book/PriceLevel" "better" "Lcom/example/kurslot/kurslot/book/PriceLevel;" .null := Dd92 (Or.inl (hw _ (List.mem_of_getElem? (i := 32) rfl))) (ty := (.object "com/example/kurslot/kurslot/book/PriceLevel")) (by decide)
    have F_worse_ld : Fld Z hp92 ld "com/example/kurslot/kurslot/book/PriceLevel" "worse" "Lcom/example/kurslot/kurslot/book/PriceLevel;" .null := Dd92 (Or.inl (hw _ (List.mem_of_getElem? (i := 34) rfl))) (ty := (.object "com/example/kurslot/kurslot/book/PriceLevel")) (by decide)
    refine own_st st92 ?_
    show OGo p e below s room_1 (OLawQ n0) (T92.setTop (mkF m 86 #[.val (.int q1), .val (.int (1 : Int32)), .val (.int (0 : Int32)), .val (.ref sd), .val (.ref la), .val (.ref lb), .val (.ref lc), .unset, .unset, .unset, .unset] [(.ref ld)]))
    refine own_st (fun t k => XS.dup X92.here hx rfl (hb hby at_86) rfl rfl k) ?_
    show OGo p e below s room_1 (OLawQ n0) (T92.setTop (mkF m 87 #[.val (.int q1), .val (.int (1 : Int32)), .val (.int (0 : Int32)), .val (.ref sd), .val (.ref la), .val (.ref lb), .val (.ref lc), .unset, .unset, .unset, .unset] [(.ref ld), (.ref ld)]))
    refine own_st (fun t k => XS.aconstNull X92.here hx rfl (hb hby at_87) k) ?_
    show OGo p e below s room_1 (OLawQ n0) (T92.setTop (mkF m 88 #[.val (.int q1), .val (.int (1 : Int32)), .val (.int (0 : Int32)), .val (.ref sd), .val (.ref la), .val (.ref lb), .val (.ref lc), .unset, .unset, .unset, .unset] [.null, (.ref ld), (.ref ld)]))
    refine own_st (fun t k => XS.aloadN X92.here hx rfl (hb hby at_88) rfl rfl k) ?_
    show OGo p e below s room_1 (OLawQ n0) (T92.setTop (mkF m 89 #[.val (.int q1), .val (.int (1 : Int32)), .val (.int (0 : Int32)), .val (.ref sd), .val (.ref la), .val (.ref lb), .val (.ref lc), .unset, .unset, .unset, .unset] [(.ref sd), .null, (.ref ld), (.ref ld)]))
    refine own_st (fun t k => XS.lconst X92.here hx rfl (hb hby at_89) k) ?_
    show OGo p e below s room_1 (OLawQ n0) (T92.setTop (mkF m 90 #[.val (.int q1), .val (.int (1 : Int32)), .val (.int (0 : Int32)), .val (.ref sd), .val (.ref la), .val (.ref lb), .val (.ref lc), .unset, .unset, .unset, .unset] [(.long (0 : Int64)), (.ref sd), .null, (.ref ld), (.ref ld)]))
    refine own_st (fun t k => XS.iconst X92.here hx rfl (hb hby at_90) k) ?_
    show OGo p e below s room_1 (OLawQ n0) (T92.setTop (mkF m 91 #[.val (.int q1), .val (.int (1 : Int32)), .val (.int (0 : Int32)), .val (.ref sd), .val (.ref la), .val (.ref lb), .val (.ref lc), .unset, .unset, .unset, .unset] [(.int (3 : Int32)), (.long (0 : Int64)), (.ref sd), .null, (.ref ld), (.ref ld)]))
    obtain ⟨_, T93, Lc93, X93, hQ93, st93⟩ := own_callI X92 hx hZ (y := (⟨"com/example/kurslot/kurslot/book/PriceLevel", "<init>", "(Lcom/example/kurslot/kurslot/book/OrderBook;Lcom/example/kurslot/kurslot/book/Side;JI)V"⟩ : MethodName)) (W := 1) rfl hown (hw _ (List.mem_of_getElem? (i := 7) rfl)) (hw _ (List.mem_of_getElem? (i := 8) rfl)) (hw _ (List.mem_of_getElem? (i := 9) rfl)) (hw _ (List.mem_of_getElem? (i := 5) rfl)) (by decide) (rm1 l Z a0 hw ld sd (0 : Int64) (3 : Int32) hp92 n0 Z0 old_ld E_ld F_better_ld F_worse_ld F_first_ld F_last_ld F_book_ld F_side_ld F_price_ld F_number_ld) (by decide) (by decide) (a := ld) (g := (mkF m 91 #[.val (.int q1), .val (.int (1 : Int32)), .val (.int (0 : Int32)), .val (.ref sd), .val (.ref la), .val (.ref lb), .val (.ref lc), .unset, .unset, .unset, .unset] [(.int (3 : Int32)), (.long (0 : Int64)), (.ref sd), .null, (.ref ld), (.ref ld)])) rfl (by rw [hml]; rfl) (argsL := [.null, (.ref sd), (.long (0 : Int64)), (.int (3 : Int32))]) (rest := [(.ref ld)]) (lenOf pd_0 rfl) rfl (by show 2 * 0 + _ ≤ _; exact Nat.le_of_eq rfl) (hb hby at_91) rfl e92 (by decide) (by decide)
    obtain ⟨rfl, Nq93, Kq93, q93_0, q93_1, q93_2⟩ := hQ93
    have Z0 := Nat.le_trans Z0 Kq93.1
    have E_la := E_la.keep Kq93
    have F_better_la := F_better_la.keep Kq93 (ninS ne_la_ld nin0)
    have F_worse_la := F_worse_la.keep Kq93 (ninS ne_la_ld nin0)
    have E_lb := E_lb.keep Kq93
    have F_better_lb := F_better_lb.keep Kq93 (ninS ne_lb_ld nin0)
    have F_worse_lb := F_worse_lb.keep Kq93 (ninS ne_lb_ld nin0)
    have E_lc := E_lc.keep Kq93
    have F_better_lc := F_better_lc.keep Kq93 (ninS ne_lc_ld nin0)
    have F_worse_lc := F_worse_lc.keep Kq93 (ninS ne_lc_ld nin0)
    have Nr93 := Fr.app Nr91 Nq93
    have E_ld := q93_0
    have F_better_ld := q93_1
    have F_worse_ld := q93_2
    refine own_st st93 ?_
    show OGo p e below s room_1 (OLawQ n0) (T93.setTop (mkF m 94 #[.val (.int q1), .val (.int (1 : Int32)), .val (.int (0 : Int32)), .val (.ref sd), .val (.ref la), .val (.ref lb), .val (.ref lc), .unset, .unset, .unset, .unset] [(.ref ld)]))
    refine own_st (fun t k => XS.astore X93.here hx rfl (hb hby at_94) rfl rfl (l' := #[.val (.int q1), .val (.int (1 : Int32)), .val (.int (0 : Int32)), .val (.ref sd), .val (.ref la), .val (.ref lb), .val (.ref lc), .val (.ref ld), .unset, .unset, .unset]) rfl k) ?_
    show OGo p e below s room_1 (OLawQ n0) (T93.setTop (mkF m 96 #[.val (.int q1), .val (.int (1 : Int32)), .val (.int (0 : Int32)), .val (.ref sd), .val (.ref la), .val (.ref lb), .val (.ref lc), .val (.ref ld), .unset, .unset, .unset] []))
    refine own_st (fun t k => XS.iloadN X93.here hx rfl (hb hby at_96) rfl k) ?_
    show OGo p e below s room_1 (OLawQ n0) (T93.setTop (mkF m 97 #[.val (.int q1), .val (.int (1 : Int32)), .val (.int (0 : Int32)), .val (.ref sd), .val (.ref la), .val (.ref lb), .val (.ref lc), .val (.ref ld), .unset, .unset, .unset] [(.int (1 : Int32))]))
    refine own_st (fun t k => XS.ifNo X93.here hx rfl (hb hby at_97) rfl ((if0 _ _).trans (feq ((by decide : ¬ (1 : Int32) = (0 : Int32)))).1) k) ?_
    show OGo p e below s room_1 (OLawQ n0) (T93.setTop (mkF m 100 #[.val (.int q1), .val (.int (1 : Int32)), .val (.int (0 : Int32)), .val (.ref sd), .val (.ref la), .val (.ref lb), .val (.ref lc), .val (.ref ld), .unset, .unset, .unset] []))
    refine own_st (fun t k => XS.aload X93.here hx rfl (hb hby at_100) rfl rfl k) ?_
    show OGo p e below s room_1 (OLawQ n0) (T93.setTop (mkF m 102 #[.val (.int q1), .val (.int (1 : Int32)), .val (.int (0 : Int32)), .val (.ref sd), .val (.ref la), .val (.ref lb), .val (.ref lc), .val (.ref ld), .unset, .unset, .unset] [(.ref la)]))
    refine own_st (fun t k => XS.goto X93.here hx rfl (pc0 := 102) (pc' := 106) rfl (hb hby at_102) (by decide) (by decide) k) ?_
    show OGo p e below s room_1 (OLawQ n0) (T93.setTop (mkF m 106 #[.val (.int q1), .val (.int (1 : Int32)), .val (.int (0 : Int32)), .val (.ref sd), .val (.ref la), .val (.ref lb), .val (.ref lc), .val (.ref ld), .unset, .unset, .unset] [(.ref la)]))
    refine own_st (fun t k => XS.astore X93.here hx rfl (hb hby at_106) rfl rfl (l' := #[.val (.int q1), .val (.int (1 : Int32)), .val (.int (0 : Int32)), .val (.ref sd), .val (.ref la), .val (.ref lb), .val (.ref lc), .val (.ref ld), .val (.ref la), .unset, .unset]) rfl k) ?_
    show OGo p e below s room_1 (OLawQ n0) (T93.setTop (mkF m 108 #[.val (.int q1), .val (.int (1 : Int32)), .val (.int (0 : Int32)), .val (.ref sd), .val (.ref la), .val (.ref lb), .val (.ref lc), .val (.ref ld), .val (.ref la), .unset, .unset] []))
    refine own_st (fun t k => XS.iloadN X93.here hx rfl (hb hby at_108) rfl k) ?_
    show OGo p e below s room_1 (OLawQ n0) (T93.setTop (mkF m 109 #[.val (.int q1), .val (.int (1 : Int32)), .val (.int (0 : Int32)), .val (.ref sd), .val (.ref la), .val (.ref lb), .val (.ref lc), .val (.ref ld), .val (.ref la), .unset, .unset] [(.int (0 : Int32))]))
    refine own_st (fun t k => XS.ifYes X93.here hx rfl (pc0 := 109) (pc' := 117) rfl (hb hby at_109) rfl ((if0 _ _).trans (teq ((by decide : (0 : Int32) = (0 : Int32)))).1) (by decide) (by decide) k) ?_
    show OGo p e below s room_1 (OLawQ n0) (T93.setTop (mkF m 117 #[.val (.int q1), .val (.int (1 : Int32)), .val (.int (0 : Int32)), .val (.ref sd), .val (.ref la), .val (.ref lb), .val (.ref lc), .val (.ref ld), .val (.ref la), .unset, .unset] []))
    refine own_st (fun t k => XS.aconstNull X93.here hx rfl (hb hby at_117) k) ?_
    show OGo p e below s room_1 (OLawQ n0) (T93.setTop (mkF m 118 #[.val (.int q1), .val (.int (1 : Int32)), .val (.int (0 : Int32)), .val (.ref sd), .val (.ref la), .val (.ref lb), .val (.ref lc), .val (.ref ld), .val (.ref la), .unset, .unset] [.null]))
    refine own_st (fun t k => XS.astore X93.here hx rfl (hb hby at_118) rfl rfl (l' := #[.val (.int q1), .val (.int (1 : Int32)), .val (.int (0 : Int32)), .val (.ref sd), .val (.ref la), .val (.ref lb), .val (.ref lc), .val (.ref ld), .val (.ref la), .val .null, .unset]) rfl k) ?_
    show OGo p e below s room_1 (OLawQ n0) (T93.setTop (mkF m 120 #[.val (.int q1), .val (.int (1 : Int32)), .val (.int (0 : Int32)), .val (.ref sd), .val (.ref la), .val (.ref lb), .val (.ref lc), .val (.ref ld), .val (.ref la), .val .null, .unset] []))
    refine own_st (fun t k => XS.iloadN X93.here hx rfl (hb hby at_120) rfl k) ?_
    show OGo p e below s room_1 (OLawQ n0) (T93.setTop (mkF m 121 #[.val (.int q1), .val (.int (1 : Int32)), .val (.int (0 : Int32)), .val (.ref sd), .val (.ref la), .val (.ref lb), .val (.ref lc), .val (.ref ld), .val (.ref la), .val .null, .unset] [(.int (0 : Int32))]))
    refine own_st (fun t k => XS.ifYes X93.here hx rfl (pc0 := 121) (pc' := 132) rfl (hb hby at_121) rfl ((if0 _ _).trans (teq ((by decide : (0 : Int32) = (0 : Int32)))).1) (by decide) (by decide) k) ?_
    show OGo p e below s room_1 (OLawQ n0) (T93.setTop (mkF m 132 #[.val (.int q1), .val (.int (1 : Int32)), .val (.int (0 : Int32)), .val (.ref sd), .val (.ref la), .val (.ref lb), .val (.ref lc), .val (.ref ld), .val (.ref la), .val .null, .unset] []))
    refine own_st (fun t k => XS.aload X93.here hx rfl (hb hby at_132) rfl rfl k) ?_
    show OGo p e below s room_1 (OLawQ n0) (T93.setTop (mkF m 134 #[.val (.int q1), .val (.int (1 : Int32)), .val (.int (0 : Int32)), .val (.ref sd), .val (.ref la), .val (.ref lb), .val (.ref lc), .val (.ref ld), .val (.ref la), .val .null, .unset] [(.ref lb)]))
    refine own_st (fun t k => XS.aload X93.here hx rfl (hb hby at_134) rfl rfl k) ?_
    show OGo p e below s room_1 (OLawQ n0) (T93.setTop (mkF m 136 #[.val (.int q1), .val (.int (1 : Int32)), .val (.int (0 : Int32)), .val (.ref sd), .val (.ref la), .val (.ref lb), .val (.ref lc), .val (.ref ld), .val (.ref la), .val .null, .unset] [(.ref la), (.ref lb)]))
    refine own_st (fun t k => XS.aload X93.here hx rfl (hb hby at_136) rfl rfl k) ?_
    show OGo p e below s room_1 (OLawQ n0) (T93.setTop (mkF m 138 #[.val (.int q1), .val (.int (1 : Int32)), .val (.int (0 : Int32)), .val (.ref sd), .val (.ref la), .val (.ref lb), .val (.ref lc), .val (.ref ld), .val (.ref la), .val .null, .unset] [.null, (.ref la), (.ref lb)]))
    obtain ⟨_, T94, Lc94, X94, hQ94, st94⟩ := own_callV X93 hx hZ (y := (⟨"com/example/kurslot/kurslot/book/PriceLevel", "linkBetween", "(Lcom/example/kurslot/kurslot/book/PriceLevel;Lcom/example/kurslot/kurslot/book/PriceLevel;)V"⟩ : MethodName)) (z := (⟨"com/example/kurslot/kurslot/book/PriceLevel", "linkBetween", "(Lcom/example/kurslot/kurslot/book/PriceLevel;Lcom/example/kurslot/kurslot/book/PriceLevel;)V"⟩ : MethodName)) (W := 0) hown (hw _ (List.mem_of_getElem? (i := 26) rfl)) (hw _ (List.mem_of_getElem? (i := 27) rfl)) (notFace_of_selects (args := #[]) (mvT hZ (hw _ (List.mem_of_getElem? (i := 29) rfl)))) (hw _ (List.mem_of_getElem? (i := 29) rfl)) (hw _ (List.mem_of_getElem? (i := 28) rfl)) (hw _ (List.mem_of_getElem? (i := 30) rfl)) (hw _ (List.mem_of_getElem? (i := 5) rfl)) (by decide) (rm3_10 l Z a0 hw lb la T93.heap n0 Z0 old_lb old_la (Ne.symm ne_la_lb) E_lb F_better_lb F_worse_lb E_la F_better_la F_worse_la) (by decide) (by decide) E_lb (g := (mkF m 138 #[.val (.int q1), .val (.int (1 : Int32)), .val (.int (0 : Int32)), .val (.ref sd), .val (.ref la), .val (.ref lb), .val (.ref lc), .val (.ref ld), .val (.ref la), .val .null, .unset] [.null, (.ref la), (.ref lb)])) rfl (by rw [hml]; rfl) (argsL := [(.ref la), .null]) (rest := []) (lenOf pd_1 rfl) rfl (by show 2 * 0 + _ ≤ _; exact Nat.le_of_eq rfl) (hb hby at_138) rfl rfl (by decide) (by decide)
    obtain ⟨rfl, Nq94, Kq94, q94_0, q94_1, q94_2, q94_3, q94_4, q94_5⟩ := hQ94
    have Z0 := Nat.le_trans Z0 Kq94.1
    have E_lc := E_lc.keep Kq94
    have F_better_lc := F_better_lc.keep Kq94 (ninS (Ne.symm ne_lb_lc) (ninS (Ne.symm ne_la_lc) nin0))
    have F_worse_lc := F_worse_lc.keep Kq94 (ninS (Ne.symm ne_lb_lc) (ninS (Ne.symm ne_la_lc) nin0))
    have E_ld := E_ld.keep Kq94
    have F_better_ld := F_better_ld.keep Kq94 (ninS (Ne.symm ne_lb_ld) (ninS (Ne.symm ne_la_ld) nin0))
    have F_worse_ld := F_worse_ld.keep Kq94 (ninS (Ne.symm ne_lb_ld) (ninS (Ne.symm ne_la_ld) nin0))
    have Nr94 := Fr.app Nr93 Nq94
    have E_lb := q94_0
    have F_better_lb := q94_1
    have F_worse_lb := q94_2
    have E_la := q94_3
    have F_better_la := q94_4
    have F_worse_la := q94_5
    refine own_st st94 ?_
    show OGo p e below s room_1 (OLawQ n0) (T94.setTop (mkF m 141 #[.val (.int q1), .val (.int (1 : Int32)), .val (.int (0 : Int32)), .val (.ref sd), .val (.ref la), .val (.ref lb), .val (.ref lc), .val (.ref ld), .val (.ref la), .val .null, .unset] []))
    refine own_st (fun t k => XS.aload X94.here hx rfl (hb hby at_141) rfl rfl k) ?_
    show OGo p e below s room_1 (OLawQ n0) (T94.setTop (mkF m 143 #[.val (.int q1), .val (.int (1 : Int32)), .val (.int (0 : Int32)), .val (.ref sd), .val (.ref la), .val (.ref lb), .val (.ref lc), .val (.ref ld), .val (.ref la), .val .null, .unset] [(.ref lb)]))
    obtain ⟨_, T95, Lc95, X95, hQ95, st95⟩ := own_callV X94 hx hZ (y := (⟨"com/example/kurslot/kurslot/book/PriceLevel", "unlink", "()V"⟩ : MethodName)) (z := (⟨"com/example/kurslot/kurslot/book/PriceLevel", "unlink", "()V"⟩ : MethodName)) (W := 0) hown (hw _ (List.mem_of_getElem? (i := 35) rfl)) (hw _ (List.mem_of_getElem? (i := 36) rfl)) (notFace_of_selects (args := #[]) (mvT hZ (hw _ (List.mem_of_getElem? (i := 38) rfl)))) (hw _ (List.mem_of_getElem? (i := 38) rfl)) (hw _ (List.mem_of_getElem? (i := 37) rfl)) (hw _ (List.mem_of_getElem? (i := 39) rfl)) (hw _ (List.mem_of_getElem? (i := 5) rfl)) (by decide) (rm4_10 l Z a0 hw lb la T94.heap n0 Z0 old_lb old_la (Ne.symm ne_la_lb) E_lb F_better_lb F_worse_lb E_la F_better_la F_worse_la) (by decide) (by decide) E_lb (g := (mkF m 143 #[.val (.int q1), .val (.int (1 : Int32)), .val (.int (0 : Int32)), .val (.ref sd), .val (.ref la), .val (.ref lb), .val (.ref lc), .val (.ref ld), .val (.ref la), .val .null, .unset] [(.ref lb)])) rfl (by rw [hml]; rfl) (argsL := []) (rest := []) (lenOf pd_2 rfl) rfl (by show 2 * 0 + _ ≤ _; exact Nat.le_of_eq rfl) (hb hby at_143) rfl rfl (by decide) (by decide)
    obtain ⟨rfl, Nq95, Kq95, q95_0, q95_1, q95_2, q95_3, q95_4, q95_5⟩ := hQ95
    have Z0 := Nat.le_trans Z0 Kq95.1
    have E_lc := E_lc.keep Kq95
    have F_better_lc := F_better_lc.keep Kq95 (ninS (Ne.symm ne_lb_lc) (ninS (Ne.symm ne_la_lc) nin0))
    have F_worse_lc := F_worse_lc.keep Kq95 (ninS (Ne.symm ne_lb_lc) (ninS (Ne.symm ne_la_lc) nin0))
    have E_ld := E_ld.keep Kq95
    have F_better_ld := F_better_ld.keep Kq95 (ninS (Ne.symm ne_lb_ld) (ninS (Ne.symm ne_la_ld) nin0))
    have F_worse_ld := F_worse_ld.keep Kq95 (ninS (Ne.symm ne_lb_ld) (ninS (Ne.symm ne_la_ld) nin0))
    have Nr95 := Fr.app Nr94 Nq95
    have E_lb := q95_0
    have F_better_lb := q95_1
    have F_worse_lb := q95_2
    have E_la := q95_3
    have F_better_la := q95_4
    have F_worse_la := q95_5
    refine own_st st95 ?_
    show OGo p e below s room_1 (OLawQ n0) (T95.setTop (mkF m 146 #[.val (.int q1), .val (.int (1 : Int32)), .val (.int (0 : Int32)), .val (.ref sd), .val (.ref la), .val (.ref lb), .val (.ref lc), .val (.ref ld), .val (.ref la), .val .null, .unset] []))
    refine own_st (fun t k => XS.aload X95.here hx rfl (hb hby at_146) rfl rfl k) ?_
    show OGo p e below s room_1 (OLawQ n0) (T95.setTop (mkF m 148 #[.val (.int q1), .val (.int (1 : Int32)), .val (.int (0 : Int32)), .val (.ref sd), .val (.ref la), .val (.ref lb), .val (.ref lc), .val (.ref ld), .val (.ref la), .val .null, .unset] [(.ref lb)]))
    obtain ⟨T96, X96, e96, st96⟩ := own_callVP X95 hx hZ (y := (⟨"com/example/kurslot/kurslot/book/PriceLevel", "worse", "()Lcom/example/kurslot/kurslot/book/PriceLevel;"⟩ : MethodName)) (z := (⟨"com/example/kurslot/kurslot/book/PriceLevel", "worse", "()Lcom/example/kurslot/kurslot/book/PriceLevel;"⟩ : MethodName)) (W := 0) hown (hw _ (List.mem_of_getElem? (i := 40) rfl)) (hw _ (List.mem_of_getElem? (i := 41) rfl)) (notFace_of_selects (args := #[]) (mvT hZ (hw _ (List.mem_of_getElem? (i := 43) rfl)))) (hw _ (List.mem_of_getElem? (i := 43) rfl)) (hw _ (List.mem_of_getElem? (i := 42) rfl)) (hw _ (List.mem_of_getElem? (i := 44) rfl)) (hw _ (List.mem_of_getElem? (i := 5) rfl)) (by decide) (rm5_0 l Z a0 hw lb T95.heap F_worse_lb) (by decide) (by decide) E_lb (g := (mkF m 148 #[.val (.int q1), .val (.int (1 : Int32)), .val (.int (0 : Int32)), .val (.ref sd), .val (.ref la), .val (.ref lb), .val (.ref lc), .val (.ref ld), .val (.ref la), .val .null, .unset] [(.ref lb)])) rfl (by rw [hml]; rfl) (argsL := []) (rest := []) (lenOf pd_3 rfl) rfl (by show 2 * 0 + _ ≤ _; exact Nat.le_of_eq rfl) (hb hby at_148) rfl rfl (by decide) (by decide)
    refine own_st st96 ?_
    show OGo p e below s room_1 (OLawQ n0) (T96.setTop (mkF m 151 #[.val (.int q1), .val (.int (1 : Int32)), .val (.int (0 : Int32)), .val (.ref sd), .val (.ref la), .val (.ref lb), .val (.ref lc), .val (.ref ld), .val (.ref la), .val .null, .unset] [.null]))
    refine own_st (fun t k => XS.ifnonnullNo X96.here hx rfl (hb hby at_151) rfl k) ?_
    show OGo p e below s room_1 (OLawQ n0) (T96.setTop (mkF m 154 #[.val (.int q1), .val (.int (1 : Int32)), .val (.int (0 : Int32)), .val (.ref sd), .val (.ref la), .val (.ref lb), .val (.ref lc), .val (.ref ld), .val (.ref la), .val .null, .unset] []))
    refine own_st (fun t k => XS.iconst X96.here hx rfl (hb hby at_154) k) ?_
    show OGo p e below s room_1 (OLawQ n0) (T96.setTop (mkF m 155 #[.val (.int q1), .val (.int (1 : Int32)), .val (.int (0 : Int32)), .val (.ref sd), .val (.ref la), .val (.ref lb), .val (.ref lc), .val (.ref ld), .val (.ref la), .val .null, .unset] [(.int (1 : Int32))]))
    refine own_st (fun t k => XS.goto X96.here hx rfl (pc0 := 155) (pc' := 159) rfl (hb hby at_155) (by decide) (by decide) k) ?_
    show OGo p e below s room_1 (OLawQ n0) (T96.setTop (mkF m 159 #[.val (.int q1), .val (.int (1 : Int32)), .val (.int (0 : Int32)), .val (.ref sd), .val (.ref la), .val (.ref lb), .val (.ref lc), .val (.ref ld), .val (.ref la), .val .null, .unset] [(.int (1 : Int32))]))
    refine own_st (fun t k => XS.istore X96.here hx rfl (hb hby at_159) rfl (l' := #[.val (.int q1), .val (.int (1 : Int32)), .val (.int (0 : Int32)), .val (.ref sd), .val (.ref la), .val (.ref lb), .val (.ref lc), .val (.ref ld), .val (.ref la), .val .null, .val (.int (1 : Int32))]) rfl k) ?_
    show OGo p e below s room_1 (OLawQ n0) (T96.setTop (mkF m 161 #[.val (.int q1), .val (.int (1 : Int32)), .val (.int (0 : Int32)), .val (.ref sd), .val (.ref la), .val (.ref lb), .val (.ref lc), .val (.ref ld), .val (.ref la), .val .null, .val (.int (1 : Int32))] []))
    refine own_st (fun t k => XS.iloadN X96.here hx rfl (hb hby at_161) rfl k) ?_
    show OGo p e below s room_1 (OLawQ n0) (T96.setTop (mkF m 162 #[.val (.int q1), .val (.int (1 : Int32)), .val (.int (0 : Int32)), .val (.ref sd), .val (.ref la), .val (.ref lb), .val (.ref lc), .val (.ref ld), .val (.ref la), .val .null, .val (.int (1 : Int32))] [(.int (1 : Int32))]))
    refine own_st (fun t k => XS.ifNo X96.here hx rfl (hb hby at_162) rfl ((if0 _ _).trans (feq ((by decide : ¬ (1 : Int32) = (0 : Int32)))).1) k) ?_
    show OGo p e below s room_1 (OLawQ n0) (T96.setTop (mkF m 165 #[.val (.int q1), .val (.int (1 : Int32)), .val (.int (0 : Int32)), .val (.ref sd), .val (.ref la), .val (.ref lb), .val (.ref lc), .val (.ref ld), .val (.ref la), .val .null, .val (.int (1 : Int32))] []))
    refine own_st (fun t k => XS.iload X96.here hx rfl (hb hby at_165) rfl k) ?_
    show OGo p e below s room_1 (OLawQ n0) (T96.setTop (mkF m 167 #[.val (.int q1), .val (.int (1 : Int32)), .val (.int (0 : Int32)), .val (.ref sd), .val (.ref la), .val (.ref lb), .val (.ref lc), .val (.ref ld), .val (.ref la), .val .null, .val (.int (1 : Int32))] [(.int (1 : Int32))]))
    refine own_st (fun t k => XS.ifNo X96.here hx rfl (hb hby at_167) rfl ((if0 _ _).trans (feq ((by decide : ¬ (1 : Int32) = (0 : Int32)))).1) k) ?_
    show OGo p e below s room_1 (OLawQ n0) (T96.setTop (mkF m 170 #[.val (.int q1), .val (.int (1 : Int32)), .val (.int (0 : Int32)), .val (.ref sd), .val (.ref la), .val (.ref lb), .val (.ref lc), .val (.ref ld), .val (.ref la), .val .null, .val (.int (1 : Int32))] []))
    refine own_st (fun t k => XS.aload X96.here hx rfl (hb hby at_170) rfl rfl k) ?_
    show OGo p e below s room_1 (OLawQ n0) (T96.setTop (mkF m 172 #[.val (.int q1), .val (.int (1 : Int32)), .val (.int (0 : Int32)), .val (.ref sd), .val (.ref la), .val (.ref lb), .val (.ref lc), .val (.ref ld), .val (.ref la), .val .null, .val (.int (1 : Int32))] [(.ref la)]))
    obtain ⟨T97, X97, e97, st97⟩ := own_callVP X96 hx hZ (y := (⟨"com/example/kurslot/kurslot/book/PriceLevel", "worse", "()Lcom/example/kurslot/kurslot/book/PriceLevel;"⟩ : MethodName)) (z := (⟨"com/example/kurslot/kurslot/book/PriceLevel", "worse", "()Lcom/example/kurslot/kurslot/book/PriceLevel;"⟩ : MethodName)) (W := 0) hown (hw _ (List.mem_of_getElem? (i := 40) rfl)) (hw _ (List.mem_of_getElem? (i := 41) rfl)) (notFace_of_selects (args := #[]) (mvT hZ (hw _ (List.mem_of_getElem? (i := 43) rfl)))) (hw _ (List.mem_of_getElem? (i := 43) rfl)) (hw _ (List.mem_of_getElem? (i := 42) rfl)) (hw _ (List.mem_of_getElem? (i := 44) rfl)) (hw _ (List.mem_of_getElem? (i := 5) rfl)) (by decide) (rm5_0 l Z a0 hw la T95.heap F_worse_la) (by decide) (by decide) E_la (g := (mkF m 172 #[.val (.int q1), .val (.int (1 : Int32)), .val (.int (0 : Int32)), .val (.ref sd), .val (.ref la), .val (.ref lb), .val (.ref lc), .val (.ref ld), .val (.ref la), .val .null, .val (.int (1 : Int32))] [(.ref la)])) rfl (by rw [hml]; rfl) (argsL := []) (rest := []) (lenOf pd_3 rfl) rfl (by show 2 * 0 + _ ≤ _; exact Nat.le_of_eq rfl) (hb hby at_172) rfl e96 (by decide) (by decide)
    refine own_st st97 ?_
    show OGo p e below s room_1 (OLawQ n0) (T97.setTop (mkF m 175 #[.val (.int q1), .val (.int (1 : Int32)), .val (.int (0 : Int32)), .val (.ref sd), .val (.ref la), .val (.ref lb), .val (.ref lc), .val (.ref ld), .val (.ref la), .val .null, .val (.int (1 : Int32))] [.null]))
    refine own_st (fun t k => XS.aload X97.here hx rfl (hb hby at_175) rfl rfl k) ?_
    show OGo p e below s room_1 (OLawQ n0) (T97.setTop (mkF m 177 #[.val (.int q1), .val (.int (1 : Int32)), .val (.int (0 : Int32)), .val (.ref sd), .val (.ref la), .val (.ref lb), .val (.ref lc), .val (.ref ld), .val (.ref la), .val .null, .val (.int (1 : Int32))] [.null, .null]))
    refine own_st (fun t k => Jvm.RoadKit.acmp (g := (mkF m 177 #[.val (.int q1), .val (.int (1 : Int32)), .val (.int (0 : Int32)), .val (.ref sd), .val (.ref la), .val (.ref lb), .val (.ref lc), .val (.ref ld), .val (.ref la), .val .null, .val (.int (1 : Int32))] [.null, .null])) X97 hx rfl rfl rfl (pc0 := 177) (pc' := 180) (same := true) rfl (hb hby at_177) rfl (decide_eq_true rfl) (by decide) (by decide) k) ?_
    show OGo p e below s room_1 (OLawQ n0) (T97.setTop (mkF m 180 #[.val (.int q1), .val (.int (1 : Int32)), .val (.int (0 : Int32)), .val (.ref sd), .val (.ref la), .val (.ref lb), .val (.ref lc), .val (.ref ld), .val (.ref la), .val .null, .val (.int (1 : Int32))] []))
    refine own_st (fun t k => XS.iconst X97.here hx rfl (hb hby at_180) k) ?_
    show OGo p e below s room_1 (OLawQ n0) (T97.setTop (mkF m 181 #[.val (.int q1), .val (.int (1 : Int32)), .val (.int (0 : Int32)), .val (.ref sd), .val (.ref la), .val (.ref lb), .val (.ref lc), .val (.ref ld), .val (.ref la), .val .null, .val (.int (1 : Int32))] [(.int (1 : Int32))]))
    refine own_st (fun t k => XS.goto X97.here hx rfl (pc0 := 181) (pc' := 185) rfl (hb hby at_181) (by decide) (by decide) k) ?_
    show OGo p e below s room_1 (OLawQ n0) (T97.setTop (mkF m 185 #[.val (.int q1), .val (.int (1 : Int32)), .val (.int (0 : Int32)), .val (.ref sd), .val (.ref la), .val (.ref lb), .val (.ref lc), .val (.ref ld), .val (.ref la), .val .null, .val (.int (1 : Int32))] [(.int (1 : Int32))]))
    refine own_st (fun t k => XS.istore X97.here hx rfl (hb hby at_185) rfl (l' := #[.val (.int q1), .val (.int (1 : Int32)), .val (.int (0 : Int32)), .val (.ref sd), .val (.ref la), .val (.ref lb), .val (.ref lc), .val (.ref ld), .val (.ref la), .val .null, .val (.int (1 : Int32))]) rfl k) ?_
    show OGo p e below s room_1 (OLawQ n0) (T97.setTop (mkF m 187 #[.val (.int q1), .val (.int (1 : Int32)), .val (.int (0 : Int32)), .val (.ref sd), .val (.ref la), .val (.ref lb), .val (.ref lc), .val (.ref ld), .val (.ref la), .val .null, .val (.int (1 : Int32))] []))
    refine own_st (fun t k => XS.iloadN X97.here hx rfl (hb hby at_187) rfl k) ?_
    show OGo p e below s room_1 (OLawQ n0) (T97.setTop (mkF m 188 #[.val (.int q1), .val (.int (1 : Int32)), .val (.int (0 : Int32)), .val (.ref sd), .val (.ref la), .val (.ref lb), .val (.ref lc), .val (.ref ld), .val (.ref la), .val .null, .val (.int (1 : Int32))] [(.int (0 : Int32))]))
    refine own_st (fun t k => XS.ifYes X97.here hx rfl (pc0 := 188) (pc' := 213) rfl (hb hby at_188) rfl ((if0 _ _).trans (teq ((by decide : (0 : Int32) = (0 : Int32)))).1) (by decide) (by decide) k) ?_
    show OGo p e below s room_1 (OLawQ n0) (T97.setTop (mkF m 213 #[.val (.int q1), .val (.int (1 : Int32)), .val (.int (0 : Int32)), .val (.ref sd), .val (.ref la), .val (.ref lb), .val (.ref lc), .val (.ref ld), .val (.ref la), .val .null, .val (.int (1 : Int32))] []))
    refine own_st (fun t k => XS.aload X97.here hx rfl (hb hby at_213) rfl rfl k) ?_
    show OGo p e below s room_1 (OLawQ n0) (T97.setTop (mkF m 215 #[.val (.int q1), .val (.int (1 : Int32)), .val (.int (0 : Int32)), .val (.ref sd), .val (.ref la), .val (.ref lb), .val (.ref lc), .val (.ref ld), .val (.ref la), .val .null, .val (.int (1 : Int32))] [(.ref lb)]))
    obtain ⟨_, T98, Lc98, X98, hQ98, st98⟩ := own_callV X97 hx hZ (y := (⟨"com/example/kurslot/kurslot/book/PriceLevel", "unlink", "()V"⟩ : MethodName)) (z := (⟨"com/example/kurslot/kurslot/book/PriceLevel", "unlink", "()V"⟩ : MethodName)) (W := 0) hown (hw _ (List.mem_of_getElem? (i := 35) rfl)) (hw _ (List.mem_of_getElem? (i := 36) rfl)) (notFace_of_selects (args := #[]) (mvT hZ (hw _ (List.mem_of_getElem? (i := 38) rfl)))) (hw _ (List.mem_of_getElem? (i := 38) rfl)) (hw _ (List.mem_of_getElem? (i := 37) rfl)) (hw _ (List.mem_of_getElem? (i := 39) rfl)) (hw _ (List.mem_of_getElem? (i := 5) rfl)) (by decide) (rm4_00 l Z a0 hw lb T95.heap n0 Z0 old_lb E_lb F_better_lb F_worse_lb) (by decide) (by decide) E_lb (g := (mkF m 215 #[.val (.int q1), .val (.int (1 : Int32)), .val (.int (0 : Int32)), .val (.ref sd), .val (.ref la), .val (.ref lb), .val (.ref lc), .val (.ref ld), .val (.ref la), .val .null, .val (.int (1 : Int32))] [(.ref lb)])) rfl (by rw [hml]; rfl) (argsL := []) (rest := []) (lenOf pd_2 rfl) rfl (by show 2 * 0 + _ ≤ _; exact Nat.le_of_eq rfl) (hb hby at_215) rfl e97 (by decide) (by decide)
    obtain ⟨rfl, Nq98, Kq98, q98_0, q98_1, q98_2⟩ := hQ98
    have Z0 := Nat.le_trans Z0 Kq98.1
    have E_lc := E_lc.keep Kq98
    have F_better_lc := F_better_lc.keep Kq98 (ninS (Ne.symm ne_lb_lc) nin0)
    have F_worse_lc := F_worse_lc.keep Kq98 (ninS (Ne.symm ne_lb_lc) nin0)
    have E_ld := E_ld.keep Kq98
    have F_better_ld := F_better_ld.keep Kq98 (ninS (Ne.symm ne_lb_ld) nin0)
    have F_worse_ld := F_worse_ld.keep Kq98 (ninS (Ne.symm ne_lb_ld) nin0)
    have E_la := E_la.keep Kq98
    have F_better_la := F_better_la.keep Kq98 (ninS ne_la_lb nin0)
    have F_worse_la := F_worse_la.keep Kq98 (ninS ne_la_lb nin0)
    have Nr98 := Fr.app Nr95 Nq98
    have E_lb := q98_0
    have F_better_lb := q98_1
    have F_worse_lb := q98_2
    refine own_st st98 ?_
    show OGo p e below s room_1 (OLawQ n0) (T98.setTop (mkF m 218 #[.val (.int q1), .val (.int (1 : Int32)), .val (.int (0 : Int32)), .val (.ref sd), .val (.ref la), .val (.ref lb), .val (.ref lc), .val (.ref ld), .val (.ref la), .val .null, .val (.int (1 : Int32))] []))
    refine own_st (fun t k => XS.iload X98.here hx rfl (hb hby at_218) rfl k) ?_
    show OGo p e below s room_1 (OLawQ n0) (T98.setTop (mkF m 220 #[.val (.int q1), .val (.int (1 : Int32)), .val (.int (0 : Int32)), .val (.ref sd), .val (.ref la), .val (.ref lb), .val (.ref lc), .val (.ref ld), .val (.ref la), .val .null, .val (.int (1 : Int32))] [(.int (1 : Int32))]))
    refine own_st (fun t k => XS.ifNo X98.here hx rfl (hb hby at_220) rfl ((if0 _ _).trans (feq ((by decide : ¬ (1 : Int32) = (0 : Int32)))).1) k) ?_
    show OGo p e below s room_1 (OLawQ n0) (T98.setTop (mkF m 223 #[.val (.int q1), .val (.int (1 : Int32)), .val (.int (0 : Int32)), .val (.ref sd), .val (.ref la), .val (.ref lb), .val (.ref lc), .val (.ref ld), .val (.ref la), .val .null, .val (.int (1 : Int32))] []))
    refine own_st (fun t k => XS.aload X98.here hx rfl (hb hby at_223) rfl rfl k) ?_
    show OGo p e below s room_1 (OLawQ n0) (T98.setTop (mkF m 225 #[.val (.int q1), .val (.int (1 : Int32)), .val (.int (0 : Int32)), .val (.ref sd), .val (.ref la), .val (.ref lb), .val (.ref lc), .val (.ref ld), .val (.ref la), .val .null, .val (.int (1 : Int32))] [(.ref lb)]))
    obtain ⟨T99, X99, e99, st99⟩ := own_callVP X98 hx hZ (y := (⟨"com/example/kurslot/kurslot/book/PriceLevel", "worse", "()Lcom/example/kurslot/kurslot/book/PriceLevel;"⟩ : MethodName)) (z := (⟨"com/example/kurslot/kurslot/book/PriceLevel", "worse", "()Lcom/example/kurslot/kurslot/book/PriceLevel;"⟩ : MethodName)) (W := 0) hown (hw _ (List.mem_of_getElem? (i := 40) rfl)) (hw _ (List.mem_of_getElem? (i := 41) rfl)) (notFace_of_selects (args := #[]) (mvT hZ (hw _ (List.mem_of_getElem? (i := 43) rfl)))) (hw _ (List.mem_of_getElem? (i := 43) rfl)) (hw _ (List.mem_of_getElem? (i := 42) rfl)) (hw _ (List.mem_of_getElem? (i := 44) rfl)) (hw _ (List.mem_of_getElem? (i := 5) rfl)) (by decide) (rm5_0 l Z a0 hw lb T98.heap F_worse_lb) (by decide) (by decide) E_lb (g := (mkF m 225 #[.val (.int q1), .val (.int (1 : Int32)), .val (.int (0 : Int32)), .val (.ref sd), .val (.ref la), .val (.ref lb), .val (.ref lc), .val (.ref ld), .val (.ref la), .val .null, .val (.int (1 : Int32))] [(.ref lb)])) rfl (by rw [hml]; rfl) (argsL := []) (rest := []) (lenOf pd_3 rfl) rfl (by show 2 * 0 + _ ≤ _; exact Nat.le_of_eq rfl) (hb hby at_225) rfl rfl (by decide) (by decide)
    refine own_st st99 ?_
    show OGo p e below s room_1 (OLawQ n0) (T99.setTop (mkF m 228 #[.val (.int q1), .val (.int (1 : Int32)), .val (.int (0 : Int32)), .val (.ref sd), .val (.ref la), .val (.ref lb), .val (.ref lc), .val (.ref ld), .val (.ref la), .val .null, .val (.int (1 : Int32))] [.null]))
    refine own_st (fun t k => XS.ifnonnullNo X99.here hx rfl (hb hby at_228) rfl k) ?_
    show OGo p e below s room_1 (OLawQ n0) (T99.setTop (mkF m 231 #[.val (.int q1), .val (.int (1 : Int32)), .val (.int (0 : Int32)), .val (.ref sd), .val (.ref la), .val (.ref lb), .val (.ref lc), .val (.ref ld), .val (.ref la), .val .null, .val (.int (1 : Int32))] []))
    refine own_st (fun t k => XS.iconst X99.here hx rfl (hb hby at_231) k) ?_
    show OGo p e below s room_1 (OLawQ n0) (T99.setTop (mkF m 232 #[.val (.int q1), .val (.int (1 : Int32)), .val (.int (0 : Int32)), .val (.ref sd), .val (.ref la), .val (.ref lb), .val (.ref lc), .val (.ref ld), .val (.ref la), .val .null, .val (.int (1 : Int32))] [(.int (1 : Int32))]))
    refine own_st (fun t k => XS.goto X99.here hx rfl (pc0 := 232) (pc' := 236) rfl (hb hby at_232) (by decide) (by decide) k) ?_
    show OGo p e below s room_1 (OLawQ n0) (T99.setTop (mkF m 236 #[.val (.int q1), .val (.int (1 : Int32)), .val (.int (0 : Int32)), .val (.ref sd), .val (.ref la), .val (.ref lb), .val (.ref lc), .val (.ref ld), .val (.ref la), .val .null, .val (.int (1 : Int32))] [(.int (1 : Int32))]))
    refine own_st (fun t k => XS.istore X99.here hx rfl (hb hby at_236) rfl (l' := #[.val (.int q1), .val (.int (1 : Int32)), .val (.int (0 : Int32)), .val (.ref sd), .val (.ref la), .val (.ref lb), .val (.ref lc), .val (.ref ld), .val (.ref la), .val .null, .val (.int (1 : Int32))]) rfl k) ?_
    show OGo p e below s room_1 (OLawQ n0) (T99.setTop (mkF m 238 #[.val (.int q1), .val (.int (1 : Int32)), .val (.int (0 : Int32)), .val (.ref sd), .val (.ref la), .val (.ref lb), .val (.ref lc), .val (.ref ld), .val (.ref la), .val .null, .val (.int (1 : Int32))] []))
    refine own_st (fun t k => XS.iloadN X99.here hx rfl (hb hby at_238) rfl k) ?_
    show OGo p e below s room_1 (OLawQ n0) (T99.setTop (mkF m 239 #[.val (.int q1), .val (.int (1 : Int32)), .val (.int (0 : Int32)), .val (.ref sd), .val (.ref la), .val (.ref lb), .val (.ref lc), .val (.ref ld), .val (.ref la), .val .null, .val (.int (1 : Int32))] [(.int (1 : Int32))]))
    refine own_st (fun t k => XS.ifNo X99.here hx rfl (hb hby at_239) rfl ((if0 _ _).trans (feq ((by decide : ¬ (1 : Int32) = (0 : Int32)))).1) k) ?_
    show OGo p e below s room_1 (OLawQ n0) (T99.setTop (mkF m 242 #[.val (.int q1), .val (.int (1 : Int32)), .val (.int (0 : Int32)), .val (.ref sd), .val (.ref la), .val (.ref lb), .val (.ref lc), .val (.ref ld), .val (.ref la), .val .null, .val (.int (1 : Int32))] []))
    refine own_st (fun t k => XS.iload X99.here hx rfl (hb hby at_242) rfl k) ?_
    show OGo p e below s room_1 (OLawQ n0) (T99.setTop (mkF m 244 #[.val (.int q1), .val (.int (1 : Int32)), .val (.int (0 : Int32)), .val (.ref sd), .val (.ref la), .val (.ref lb), .val (.ref lc), .val (.ref ld), .val (.ref la), .val .null, .val (.int (1 : Int32))] [(.int (1 : Int32))]))
    refine own_st (fun t k => XS.ifNo X99.here hx rfl (hb hby at_244) rfl ((if0 _ _).trans (feq ((by decide : ¬ (1 : Int32) = (0 : Int32)))).1) k) ?_
    show OGo p e below s room_1 (OLawQ n0) (T99.setTop (mkF m 247 #[.val (.int q1), .val (.int (1 : Int32)), .val (.int (0 : Int32)), .val (.ref sd), .val (.ref la), .val (.ref lb), .val (.ref lc), .val (.ref ld), .val (.ref la), .val .null, .val (.int (1 : Int32))] []))
    refine own_st (fun t k => XS.aload X99.here hx rfl (hb hby at_247) rfl rfl k) ?_
    show OGo p e below s room_1 (OLawQ n0) (T99.setTop (mkF m 249 #[.val (.int q1), .val (.int (1 : Int32)), .val (.int (0 : Int32)), .val (.ref sd), .val (.ref la), .val (.ref lb), .val (.ref lc), .val (.ref ld), .val (.ref la), .val .null, .val (.int (1 : Int32))] [(.ref la)]))
    obtain ⟨T100, X100, e100, st100⟩ := own_callVP X99 hx hZ (y := (⟨"com/example/kurslot/kurslot/book/PriceLevel", "worse", "()Lcom/example/kurslot/kurslot/book/PriceLevel;"⟩ : MethodName)) (z := (⟨"com/example/kurslot/kurslot/book/PriceLevel", "worse", "()Lcom/example/kurslot/kurslot/book/PriceLevel;"⟩ : MethodName)) (W := 0) hown (hw _ (List.mem_of_getElem? (i := 40) rfl)) (hw _ (List.mem_of_getElem? (i := 41) rfl)) (notFace_of_selects (args := #[]) (mvT hZ (hw _ (List.mem_of_getElem? (i := 43) rfl)))) (hw _ (List.mem_of_getElem? (i := 43) rfl)) (hw _ (List.mem_of_getElem? (i := 42) rfl)) (hw _ (List.mem_of_getElem? (i := 44) rfl)) (hw _ (List.mem_of_getElem? (i := 5) rfl)) (by decide) (rm5_0 l Z a0 hw la T98.heap F_worse_la) (by decide) (by decide) E_la (g := (mkF m 249 #[.val (.int q1), .val (.int (1 : Int32)), .val (.int (0 : Int32)), .val (.ref sd), .val (.ref la), .val (.ref lb), .val (.ref lc), .val (.ref ld), .val (.ref la), .val .null, .val (.int (1 : Int32))] [(.ref la)])) rfl (by rw [hml]; rfl) (argsL := []) (rest := []) (lenOf pd_3 rfl) rfl (by show 2 * 0 + _ ≤ _; exact Nat.le_of_eq rfl) (hb hby at_249) rfl e99 (by decide) (by decide)
    refine own_st st100 ?_
    show OGo p e below s room_1 (OLawQ n0) (T100.setTop (mkF m 252 #[.val (.int q1), .val (.int (1 : Int32)), .val (.int (0 : Int32)), .val (.ref sd), .val (.ref la), .val (.ref lb), .val (.ref lc), .val (.ref ld), .val (.ref la), .val .null, .val (.int (1 : Int32))] [.null]))
    refine own_st (fun t k => XS.aload X100.here hx rfl (hb hby at_252) rfl rfl k) ?_
    show OGo p e below s room_1 (OLawQ n0) (T100.setTop (mkF m 254 #[.val (.int q1), .val (.int (1 : Int32)), .val (.int (0 : Int32)), .val (.ref sd), .val (.ref la), .val (.ref lb), .val (.ref lc), .val (.ref ld), .val (.ref la), .val .null, .val (.int (1 : Int32))] [.null, .null]))
    refine own_st (fun t k => Jvm.RoadKit.acmp (g := (mkF m 254 #[.val (.int q1), .val (.int (1 : Int32)), .val (.int (0 : Int32)), .val (.ref sd), .val (.ref la), .val (.ref lb), .val (.ref lc), .val (.ref ld), .val (.ref la), .val .null, .val (.int (1 : Int32))] [.null, .null])) X100 hx rfl rfl rfl (pc0 := 254) (pc' := 257) (same := true) rfl (hb hby at_254) rfl (decide_eq_true rfl) (by decide) (by decide) k) ?_
    show OGo p e below s room_1 (OLawQ n0) (T100.setTop (mkF m 257 #[.val (.int q1), .val (.int (1 : Int32)), .val (.int (0 : Int32)), .val (.ref sd), .val (.ref la), .val (.ref lb), .val (.ref lc), .val (.ref ld), .val (.ref la), .val .null, .val (.int (1 : Int32))] []))
    refine own_st (fun t k => XS.iconst X100.here hx rfl (hb hby at_257) k) ?_
    show OGo p e below s room_1 (OLawQ n0) (T100.setTop (mkF m 258 #[.val (.int q1), .val (.int (1 : Int32)), .val (.int (0 : Int32)), .val (.ref sd), .val (.ref la), .val (.ref lb), .val (.ref lc), .val (.ref ld), .val (.ref la), .val .null, .val (.int (1 : Int32))] [(.int (1 : Int32))]))
    refine own_st (fun t k => XS.goto X100.here hx rfl (pc0 := 258) (pc' := 262) rfl (hb hby at_258) (by decide) (by decide) k) ?_
    show OGo p e below s room_1 (OLawQ n0) (T100.setTop (mkF m 262 #[.val (.int q1), .val (.int (1 : Int32)), .val (.int (0 : Int32)), .val (.ref sd), .val (.ref la), .val (.ref lb), .val (.ref lc), .val (.ref ld), .val (.ref la), .val .null, .val (.int (1 : Int32))] [(.int (1 : Int32))]))
    refine own_st (fun t k => XS.istore X100.here hx rfl (hb hby at_262) rfl (l' := #[.val (.int q1), .val (.int (1 : Int32)), .val (.int (0 : Int32)), .val (.ref sd), .val (.ref la), .val (.ref lb), .val (.ref lc), .val (.ref ld), .val (.ref la), .val .null, .val (.int (1 : Int32))]) rfl k) ?_
    show OGo p e below s room_1 (OLawQ n0) (T100.setTop (mkF m 264 #[.val (.int q1), .val (.int (1 : Int32)), .val (.int (0 : Int32)), .val (.ref sd), .val (.ref la), .val (.ref lb), .val (.ref lc), .val (.ref ld), .val (.ref la), .val .null, .val (.int (1 : Int32))] []))
    refine own_st (fun t k => XS.iloadN X100.here hx rfl (hb hby at_264) rfl k) ?_
    show OGo p e below s room_1 (OLawQ n0) (T100.setTop (mkF m 265 #[.val (.int q1), .val (.int (1 : Int32)), .val (.int (0 : Int32)), .val (.ref sd), .val (.ref la), .val (.ref lb), .val (.ref lc), .val (.ref ld), .val (.ref la), .val .null, .val (.int (1 : Int32))] [(.int (0 : Int32))]))
    refine own_st (fun t k => XS.ifYes X100.here hx rfl (pc0 := 265) (pc' := 357) rfl (hb hby at_265) rfl ((if0 _ _).trans (teq ((by decide : (0 : Int32) = (0 : Int32)))).1) (by decide) (by decide) k) ?_
    show OGo p e below s room_1 (OLawQ n0) (T100.setTop (mkF m 357 #[.val (.int q1), .val (.int (1 : Int32)), .val (.int (0 : Int32)), .val (.ref sd), .val (.ref la), .val (.ref lb), .val (.ref lc), .val (.ref ld), .val (.ref la), .val .null, .val (.int (1 : Int32))] []))
    refine own_st (fun t k => XS.iload X100.here hx rfl (hb hby at_357) rfl k) ?_
    show OGo p e below s room_1 (OLawQ n0) (T100.setTop (mkF m 359 #[.val (.int q1), .val (.int (1 : Int32)), .val (.int (0 : Int32)), .val (.ref sd), .val (.ref la), .val (.ref lb), .val (.ref lc), .val (.ref ld), .val (.ref la), .val .null, .val (.int (1 : Int32))] [(.int (1 : Int32))]))
    exact own_retN X100 hx hlk (t := .boolean) hret (by simp) (hb hby at_359) (by decide) (by decide) (⟨rfl, Nr98⟩)
  have J11 : ∀ (T1 : State) (sd : Addr), Stand p l e room_1 s m #[(.int q1)] below meth c T1 [] 0 0 → T1.heap = h0 → OGo p e below s room_1 (OLawQ n0) (T1.setTop (mkF m 39 #[.val (.int q1), .val (.int (1 : Int32)), .val (.int (1 : Int32)), .unset, .unset, .unset, .unset, .unset, .unset, .unset, .unset] [(.ref sd)])) := by
    intro T1 sd X1 e1
    show OGo p e below s room_1 (OLawQ n0) (T1.setTop (mkF m 39 #[.val (.int q1), .val (.int (1 : Int32)), .val (.int (1 : Int32)), .unset, .unset, .unset, .unset, .unset, .unset, .unset, .unset] [(.ref sd)]))
    refine own_st (fun t k => XS.astoreN X1.here hx rfl (hb hby at_39) rfl rfl (l' := #[.val (.int q1), .val (.int (1 : Int32)), .val (.int (1 : Int32)), .val (.ref sd), .unset, .unset, .unset, .unset, .unset, .unset, .unset]) rfl k) ?_
    show OGo p e below s room_1 (OLawQ n0) (T1.setTop (mkF m 40 #[.val (.int q1), .val (.int (1 : Int32)), .val (.int (1 : Int32)), .val (.ref sd), .unset, .unset, .unset, .unset, .unset, .unset, .unset] []))
    obtain ⟨T101, hp101, X101, e101, Ex101, Aa101, Dd101, -, st101⟩ := newO X1 hx hZ hown (hw _ (List.mem_of_getElem? (i := 3) rfl)) (hw _ (List.mem_of_getElem? (i := 4) rfl)) (hw _ (List.mem_of_getElem? (i := 5) rfl)) e1 (g := (mkF m 40 #[.val (.int q1), .val (.int (1 : Int32)), .val (.int (1 : Int32)), .val (.ref sd), .unset, .unset, .unset, .unset, .unset, .unset, .unset] [])) rfl (hb hby at_40) (by decide) (by decide)
    obtain ⟨la, gs101⟩ : ∃ z, z = h0.size := ⟨_, rfl⟩
    rw [← gs101] at Aa101 Dd101 st101
    have old_la : n0 ≤ la := Nat.le_trans Z0 (Nat.le_of_eq gs101.symm)
    have Z0 := Nat.le_trans Z0 Ex101.1
    have E_la := Aa101
    have F_first_la : Fld Z hp101 la "com/example/kurslot/kurslot/book/PriceLevel" "first" "I" (.int (0 : Int32)) := Dd101 (Or.inl (hw _ (List.mem_of_getElem? (i := 14) rfl))) (ty := .int) (by decide)
    have F_last_la : Fld Z hp101 la "com/example/kurslot/kurslot/book/PriceLevel" "last" "I" (.int (0 : Int32)) := Dd101 (Or.inl (hw _ (List.mem_of_getElem? (i := 16) rfl))) (ty := .int) (by decide)
    have F_book_la : Fld Z hp101 la "com/example/kurslot/kurslot/book/PriceLevel" "book" "Lcom/example/kurslot/kurslot/book/OrderBook;" .null := Dd101 (Or.inr (hw _ (List.mem_of_getElem? (i := 18) rfl))) (ty := (.object "com/example/kurslot/kurslot/book/OrderBook")) (by decide)
    have F_side_la : Fld Z hp101 la "com/example/kurslot/kurslot/book/PriceLevel" "side" "Lcom/example/kurslot/kurslot/book/Side;" .null := Dd101 (Or.inr (hw _ (List.mem_of_getElem? (i := 20) rfl))) (ty := (.object "com/example/kurslot/kurslot/book/Side")) (by decide)
    have F_price_la : Fld Z hp101 la "com/example/kurslot/kurslot/book/PriceLevel" "price" "J" (.long (0 : Int64)) := Dd101 (Or.inr (hw _ (List.mem_of_getElem? (i := 22) rfl))) (ty := .long) (by decide)
    have F_number_la : Fld Z hp101 la "com/example/kurslot/kurslot/book/PriceLevel" "number" "I" (.int (0 : Int32)) := Dd101 (Or.inr (hw _ (List.mem_of_getElem? (i := 24) rfl))) (ty := .int) (by decide)
    have F_better_la : Fld Z hp101 la "com/example/kurslot/kurslot/book/PriceLevel" "better" "Lcom/example/kurslot/kurslot/book/PriceLevel;" .null := Dd101 (Or.inl (hw _ (List.mem_of_getElem? (i := 32) rfl))) (ty := (.object "com/example/kurslot/kurslot/book/PriceLevel")) (by decide)
    have F_worse_la : Fld Z hp101 la "com/example/kurslot/kurslot/book/PriceLevel" "worse" "Lcom/example/kurslot/kurslot/book/PriceLevel;" .null := Dd101 (Or.inl (hw _ (List.mem_of_getElem? (i := 34) rfl))) (ty := (.object "com/example/kurslot/kurslot/book/PriceLevel")) (by decide)
    refine own_st st101 ?_
    show OGo p e below s room_1 (OLawQ n0) (T101.setTop (mkF m 43 #[.val (.int q1), .val (.int (1 : Int32)), .val (.int (1 : Int32)), .val (.ref sd), .unset, .unset, .unset, .unset, .unset, .unset, .unset] [(.ref la)]))
    refine own_st (fun t k => XS.dup X101.here hx rfl (hb hby at_43) rfl rfl k) ?_
    show OGo p e below s room_1 (OLawQ n0) (T101.setTop (mkF m 44 #[.val (.int q1), .val (.int (1 : Int32)), .val (.int (1 : Int32)), .val (.ref sd), .unset, .unset, .unset, .unset, .unset, .unset, .unset] [(.ref la), (.ref la)]))
    refine own_st (fun t k => XS.aconstNull X101.here hx rfl (hb hby at_44) k) ?_
    show OGo p e below s room_1 (OLawQ n0) (T101.setTop (mkF m 45 #[.val (.int q1), .val (.int (1 : Int32)), .val (.int (1 : Int32)), .val (.ref sd), .unset, .unset, .unset, .unset, .unset, .unset, .unset] [.null, (.ref la), (.ref la)]))
    refine own_st (fun t k => XS.aloadN X101.here hx rfl (hb hby at_45) rfl rfl k) ?_
    show OGo p e below s room_1 (OLawQ n0) (T101.setTop (mkF m 46 #[.val (.int q1), .val (.int (1 : Int32)), .val (.int (1 : Int32)), .val (.ref sd), .unset, .unset, .unset, .unset, .unset, .unset, .unset] [(.ref sd), .null, (.ref la), (.ref la)]))
    refine own_st (X101.ldc2Long hx hown (mvT hZ (hw _ (List.mem_of_getElem? (i := 6) rfl))) (g := (mkF m 46 #[.val (.int q1), .val (.int (1 : Int32)), .val (.int (1 : Int32)), .val (.ref sd), .unset, .unset, .unset, .unset, .unset, .unset, .unset] [(.ref sd), .null, (.ref la), (.ref la)])) rfl (hb hby at_46)) ?_
    show OGo p e below s room_1 (OLawQ n0) (T101.setTop (mkF m 49 #[.val (.int q1), .val (.int (1 : Int32)), .val (.int (1 : Int32)), .val (.ref sd), .unset, .unset, .unset, .unset, .unset, .unset, .unset] [(.long (3 : Int64)), (.ref sd), .null, (.ref la), (.ref la)]))
    refine own_st (fun t k => XS.iconst X101.here hx rfl (hb hby at_49) k) ?_
    show OGo p e below s room_1 (OLawQ n0) (T101.setTop (mkF m 50 #[.val (.int q1), .val (.int (1 : Int32)), .val (.int (1 : Int32)), .val (.ref sd), .unset, .unset, .unset, .unset, .unset, .unset, .unset] [(.int (0 : Int32)), (.long (3 : Int64)), (.ref sd), .null, (.ref la), (.ref la)]))
    obtain ⟨_, T102, Lc102, X102, hQ102, st102⟩ := own_callI X101 hx hZ (y := (⟨"com/example/kurslot/kurslot/book/PriceLevel", "<init>", "(Lcom/example/kurslot/kurslot/book/OrderBook;Lcom/example/kurslot/kurslot/book/Side;JI)V"⟩ : MethodName)) (W := 1) rfl hown (hw _ (List.mem_of_getElem? (i := 7) rfl)) (hw _ (List.mem_of_getElem? (i := 8) rfl)) (hw _ (List.mem_of_getElem? (i := 9) rfl)) (hw _ (List.mem_of_getElem? (i := 5) rfl)) (by decide) (rm1 l Z a0 hw la sd (3 : Int64) (0 : Int32) hp101 n0 Z0 old_la E_la F_better_la F_worse_la F_first_la F_last_la F_book_la F_side_la F_price_la F_number_la) (by decide) (by decide) (a := la) (g := (mkF m 50 #[.val (.int q1), .val (.int (1 : Int32)), .val (.int (1 : Int32)), .val (.ref sd), .unset, .unset, .unset, .unset, .unset, .unset, .unset] [(.int (0 : Int32)), (.long (3 : Int64)), (.ref sd), .null, (.ref la), (.ref la)])) rfl (by rw [hml]; rfl) (argsL := [.null, (.ref sd), (.long (3 : Int64)), (.int (0 : Int32))]) (rest := [(.ref la)]) (lenOf pd_0 rfl) rfl (by show 2 * 0 + _ ≤ _; exact Nat.le_of_eq rfl) (hb hby at_50) rfl e101 (by decide) (by decide)
    obtain ⟨rfl, Nq102, Kq102, q102_0, q102_1, q102_2⟩ := hQ102
    have Z0 := Nat.le_trans Z0 Kq102.1
    have Nr102 := Fr.app N0 Nq102
    have E_la := q102_0
    have F_better_la := q102_1
    have F_worse_la := q102_2
    refine own_st st102 ?_
    show OGo p e below s room_1 (OLawQ n0) (T102.setTop (mkF m 53 #[.val (.int q1), .val (.int (1 : Int32)), .val (.int (1 : Int32)), .val (.ref sd), .unset, .unset, .unset, .unset, .unset, .unset, .unset] [(.ref la)]))
    refine own_st (fun t k => XS.astore X102.here hx rfl (hb hby at_53) rfl rfl (l' := #[.val (.int q1), .val (.int (1 : Int32)), .val (.int (1 : Int32)), .val (.ref sd), .val (.ref la), .unset, .unset, .unset, .unset, .unset, .unset]) rfl k) ?_
    show OGo p e below s room_1 (OLawQ n0) (T102.setTop (mkF m 55 #[.val (.int q1), .val (.int (1 : Int32)), .val (.int (1 : Int32)), .val (.ref sd), .val (.ref la), .unset, .unset, .unset, .unset, .unset, .unset] []))
    obtain ⟨T103, hp103, X103, e103, Ex103, Aa103, Dd103, -, st103⟩ := newO X102 hx hZ hown (hw _ (List.mem_of_getElem? (i := 3) rfl)) (hw _ (List.mem_of_getElem? (i := 4) rfl)) (hw _ (List.mem_of_getElem? (i := 5) rfl)) rfl (g := (mkF m 55 #[.val (.int q1), .val (.int (1 : Int32)), .val (.int (1 : Int32)), .val (.ref sd), .val (.ref la), .unset, .unset, .unset, .unset, .unset, .unset] [])) rfl (hb hby at_55) (by decide) (by decide)
    obtain ⟨lb, gs103⟩ : ∃ z, z = T102.heap.size := ⟨_, rfl⟩
    rw [← gs103] at Aa103 Dd103 st103
    have ne_la_lb : la ≠ lb := Nat.ne_of_lt (Nat.lt_of_lt_of_le E_la.lt (Nat.le_of_eq gs103.symm))
    have old_lb : n0 ≤ lb := Nat.le_trans Z0 (Nat.le_of_eq gs103.symm)
    have Z0 := Nat.le_trans Z0 Ex103.1
    have E_la := E_la.ext Ex103
    have F_better_la := F_better_la.ext Ex103
    have F_worse_la := F_worse_la.ext Ex103
    have E_lb := Aa103
    have F_first_lb : Fld Z hp103 lb "com/example/kurslot/kurslot/book/PriceLevel" "first" "I" (.int (0 : Int32)) := Dd103 (Or.inl (hw _ (List.mem_of_getElem? (i := 14) rfl))) (ty := .int) (by decide)
    have F_last_lb : Fld Z hp103 lb "com/example/kurslot/kurslot/book/PriceLevel" "last" "I" (.int (0 : Int32)) := Dd103 (Or.inl (hw _ (List.mem_of_getElem? (i := 16) rfl))) (ty := .int) (by decide)
    have F_book_lb : Fld Z hp103 lb "com/example/kurslot/kurslot/book/PriceLevel" "book" "Lcom/example/kurslot/kurslot/book/OrderBook;" .null := Dd103 (Or.inr (hw _ (List.mem_of_getElem? (i := 18) rfl))) (ty := (.object "com/example/kurslot/kurslot/book/OrderBook")) (by decide)
    have F_side_lb : Fld Z hp103 lb "com/example/kurslot/kurslot/book/PriceLevel" "side" "Lcom/example/kurslot/kurslot/book/Side;" .null := Dd103 (Or.inr (hw _ (List.mem_of_getElem? (i := 20) rfl))) (ty := (.object "com/example/kurslot/kurslot/book/Side")) (by decide)
    have F_price_lb : Fld Z hp103 lb "com/example/kurslot/kurslot/book/PriceLevel" "price" "J" (.long (0 : Int64)) := Dd103 (Or.inr (hw _ (List.mem_of_getElem? (i := 22) rfl))) (ty := .long) (by decide)
    have F_number_lb : Fld Z hp103 lb "com/example/kurslot/kurslot/book/PriceLevel" "number" "I" (.int (0 : Int32)) := Dd103 (Or.inr (hw _ (List.mem_of_getElem? (i := 24) rfl))) (ty := .int) (by decide)
    have F_better_lb : Fld Z hp103 lb "com/example/kurslot/kurslot/book/PriceLevel" "better" "Lcom/example/kurslot/kurslot/book/PriceLevel;" .null := Dd103 (Or.inl (hw _ (List.mem_of_getElem? (i := 32) rfl))) (ty := (.object "com/example/kurslot/kurslot/book/PriceLevel")) (by decide)
    have F_worse_lb : Fld Z hp103 lb "com/example/kurslot/kurslot/book/PriceLevel" "worse" "Lcom/example/kurslot/kurslot/book/PriceLevel;" .null := Dd103 (Or.inl (hw _ (List.mem_of_getElem? (i := 34) rfl))) (ty := (.object "com/example/kurslot/kurslot/book/PriceLevel")) (by decide)
    refine own_st st103 ?_
    show OGo p e below s room_1 (OLawQ n0) (T103.setTop (mkF m 58 #[.val (.int q1), .val (.int (1 : Int32)), .val (.int (1 : Int32)), .val (.ref sd), .val (.ref la), .unset, .unset, .unset, .unset, .unset, .unset] [(.ref lb)]))
    refine own_st (fun t k => XS.dup X103.here hx rfl (hb hby at_58) rfl rfl k) ?_
    show OGo p e below s room_1 (OLawQ n0) (T103.setTop (mkF m 59 #[.val (.int q1), .val (.int (1 : Int32)), .val (.int (1 : Int32)), .val (.ref sd), .val (.ref la), .unset, .unset, .unset, .unset, .unset, .unset] [(.ref lb), (.ref lb)]))
    refine own_st (fun t k => XS.aconstNull X103.here hx rfl (hb hby at_59) k) ?_
    show OGo p e below s room_1 (OLawQ n0) (T103.setTop (mkF m 60 #[.val (.int q1), .val (.int (1 : Int32)), .val (.int (1 : Int32)), .val (.ref sd), .val (.ref la), .unset, .unset, .unset, .unset, .unset, .unset] [.null, (.ref lb), (.ref lb)]))
    refine own_st (fun t k => XS.aloadN X103.here hx rfl (hb hby at_60) rfl rfl k) ?_
    show OGo p e below s room_1 (OLawQ n0) (T103.setTop (mkF m 61 #[.val (.int q1), .val (.int (1 : Int32)), .val (.int (1 : Int32)), .val (.ref sd), .val (.ref la), .unset, .unset, .unset, .unset, .unset, .unset] [(.ref sd), .null, (.ref lb), (.ref lb)]))
    refine own_st (X103.ldc2Long hx hown (mvT hZ (hw _ (List.mem_of_getElem? (i := 25) rfl))) (g := (mkF m 61 #[.val (.int q1), .val (.int (1 : Int32)), .val (.int (1 : Int32)), .val (.ref sd), .val (.ref la), .unset, .unset, .unset, .unset, .unset, .unset] [(.ref sd), .null, (.ref lb), (.ref lb)])) rfl (hb hby at_61)) ?_
    show OGo p e below s room_1 (OLawQ n0) (T103.setTop (mkF m 64 #[.val (.int q1), .val (.int (1 : Int32)), .val (.int (1 : Int32)), .val (.ref sd), .val (.ref la), .unset, .unset, .unset, .unset, .unset, .unset] [(.long (2 : Int64)), (.ref sd), .null, (.ref lb), (.ref lb)]))
    refine own_st (fun t k => XS.iconst X103.here hx rfl (hb hby at_64) k) ?_
    show OGo p e below s room_1 (OLawQ n0) (T103.setTop (mkF m 65 #[.val (.int q1), .val (.int (1 : Int32)), .val (.int (1 : Int32)), .val (.ref sd), .val (.ref la), .unset, .unset, .unset, .unset, .unset, .unset] [(.int (1 : Int32)), (.long (2 : Int64)), (.ref sd), .null, (.ref lb), (.ref lb)]))
    obtain ⟨_, T104, Lc104, X104, hQ104, st104⟩ := own_callI X103 hx hZ (y := (⟨"com/example/kurslot/kurslot/book/PriceLevel", "<init>", "(Lcom/example/kurslot/kurslot/book/OrderBook;Lcom/example/kurslot/kurslot/book/Side;JI)V"⟩ : MethodName)) (W := 1) rfl hown (hw _ (List.mem_of_getElem? (i := 7) rfl)) (hw _ (List.mem_of_getElem? (i := 8) rfl)) (hw _ (List.mem_of_getElem? (i := 9) rfl)) (hw _ (List.mem_of_getElem? (i := 5) rfl)) (by decide) (rm1 l Z a0 hw lb sd (2 : Int64) (1 : Int32) hp103 n0 Z0 old_lb E_lb F_better_lb F_worse_lb F_first_lb F_last_lb F_book_lb F_side_lb F_price_lb F_number_lb) (by decide) (by decide) (a := lb) (g := (mkF m 65 #[.val (.int q1), .val (.int (1 : Int32)), .val (.int (1 : Int32)), .val (.ref sd), .val (.ref la), .unset, .unset, .unset, .unset, .unset, .unset] [(.int (1 : Int32)), (.long (2 : Int64)), (.ref sd), .null, (.ref lb), (.ref lb)])) rfl (by rw [hml]; rfl) (argsL := [.null, (.ref sd), (.long (2 : Int64)), (.int (1 : Int32))]) (rest := [(.ref lb)]) (lenOf pd_0 rfl) rfl (by show 2 * 0 + _ ≤ _; exact Nat.le_of_eq rfl) (hb hby at_65) rfl e103 (by decide) (by decide)
    obtain ⟨rfl, Nq104, Kq104, q104_0, q104_1, q104_2⟩ := hQ104
    have Z0 := Nat.le_trans Z0 Kq104.1
    have E_la := E_la.keep Kq104
    have F_better_la := F_better_la.keep Kq104 (ninS ne_la_lb nin0)
    have F_worse_la := F_worse_la.keep Kq104 (ninS ne_la_lb nin0)
    have Nr104 := Fr.app Nr102 Nq104
    have E_lb := q104_0
    have F_better_lb := q104_1
    have F_worse_lb := q104_2
    refine own_st st104 ?_
    show OGo p e below s room_1 (OLawQ n0) (T104.setTop (mkF m 68 #[.val (.int q1), .val (.int (1 : Int32)), .val (.int (1 : Int32)), .val (.ref sd), .val (.ref la), .unset, .unset, .unset, .unset, .unset, .unset] [(.ref lb)]))
    refine own_st (fun t k => XS.astore X104.here hx rfl (hb hby at_68) rfl rfl (l' := #[.val (.int q1), .val (.int (1 : Int32)), .val (.int (1 : Int32)), .val (.ref sd), .val (.ref la), .val (.ref lb), .unset, .unset, .unset, .unset, .unset]) rfl k) ?_
    show OGo p e below s room_1 (OLawQ n0) (T104.setTop (mkF m 70 #[.val (.int q1), .val (.int (1 : Int32)), .val (.int (1 : Int32)), .val (.ref sd), .val (.ref la), .val (.ref lb), .unset, .unset, .unset, .unset, .unset] []))
    obtain ⟨T105, hp105, X105, e105, Ex105, Aa105, Dd105, -, st105⟩ := newO X104 hx hZ hown (hw _ (List.mem_of_getElem? (i := 3) rfl)) (hw _ (List.mem_of_getElem? (i := 4) rfl)) (hw _ (List.mem_of_getElem? (i := 5) rfl)) rfl (g := (mkF m 70 #[.val (.int q1), .val (.int (1 : Int32)), .val (.int (1 : Int32)), .val (.ref sd), .val (.ref la), .val (.ref lb), .unset, .unset, .unset, .unset, .unset] [])) rfl (hb hby at_70) (by decide) (by decide)
    obtain ⟨lc, gs105⟩ : ∃ z, z = T104.heap.size := ⟨_, rfl⟩
    rw [← gs105] at Aa105 Dd105 st105
    have ne_la_lc : la ≠ lc := Nat.ne_of_lt (Nat.lt_of_lt_of_le E_la.lt (Nat.le_of_eq gs105.symm))
    have ne_lb_lc : lb ≠ lc := Nat.ne_of_lt (Nat.lt_of_lt_of_le E_lb.lt (Nat.le_of_eq gs105.symm))
    have old_lc : n0 ≤ lc := Nat.le_trans Z0 (Nat.le_of_eq gs105.symm)
    have Z0 := Nat.le_trans Z0 Ex105.1
    have E_la := E_la.ext Ex105
    have F_better_la := F_better_la.ext Ex105
    have F_worse_la := F_worse_la.ext Ex105
    have E_lb := E_lb.ext Ex105
    have F_better_lb := F_better_lb.ext Ex105
    have F_worse_lb := F_worse_lb.ext Ex105
    have E_lc := Aa105
    have F_first_lc : Fld Z hp105 lc "com/example/kurslot/kurslot/book/PriceLevel" "first" "I" (.int (0 : Int32)) := Dd105 (Or.inl (hw _ (List.mem_of_getElem? (i := 14) rfl))) (ty := .int) (by decide)
    have F_last_lc : Fld Z hp105 lc "com/example/kurslot/kurslot/book/PriceLevel" "last" "I" (.int (0 : Int32)) := Dd105 (Or.inl (hw _ (List.mem_of_getElem? (i := 16) rfl))) (ty := .int) (by decide)
    have F_book_lc : Fld Z hp105 lc "com/example/kurslot/kurslot/book/PriceLevel" "book" "Lcom/example/kurslot/kurslot/book/OrderBook;" .null := Dd105 (Or.inr (hw _ (List.mem_of_getElem? (i := 18) rfl))) (ty := (.object "com/example/kurslot/kurslot/book/OrderBook")) (by decide)
    have F_side_lc : Fld Z hp105 lc "com/example/kurslot/kurslot/book/PriceLevel" "side" "Lcom/example/kurslot/kurslot/book/Side;" .null := Dd105 (Or.inr (hw _ (List.mem_of_getElem? (i := 20) rfl))) (ty := (.object "com/example/kurslot/kurslot/book/Side")) (by decide)
    have F_price_lc : Fld Z hp105 lc "com/example/kurslot/kurslot/book/PriceLevel" "price" "J" (.long (0 : Int64)) := Dd105 (Or.inr (hw _ (List.mem_of_getElem? (i := 22) rfl))) (ty := .long) (by decide)
    have F_number_lc : Fld Z hp105 lc "com/example/kurslot/kurslot/book/PriceLevel" "number" "I" (.int (0 : Int32)) := Dd105 (Or.inr (hw _ (List.mem_of_getElem? (i := 24) rfl))) (ty := .int) (by decide)
    have F_better_lc : Fld Z hp105 lc "com/example/kurslot/kurslot/book/PriceLevel" "better" "Lcom/example/kurslot/kurslot/book/PriceLevel;" .null := Dd105 (Or.inl (hw _ (List.mem_of_getElem? (i := 32) rfl))) (ty := (.object "com/example/kurslot/kurslot/book/PriceLevel")) (by decide)
    have F_worse_lc : Fld Z hp105 lc "com/example/kurslot/kurslot/book/PriceLevel" "worse" "Lcom/example/kurslot/kurslot/book/PriceLevel;" .null := Dd105 (Or.inl (hw _ (List.mem_of_getElem? (i := 34) rfl))) (ty := (.object "com/example/kurslot/kurslot/book/PriceLevel")) (by decide)
    refine own_st st105 ?_
    show OGo p e below s room_1 (OLawQ n0) (T105.setTop (mkF m 73 #[.val (.int q1), .val (.int (1 : Int32)), .val (.int (1 : Int32)), .val (.ref sd), .val (.ref la), .val (.ref lb), .unset, .unset, .unset, .unset, .unset] [(.ref lc)]))
    refine own_st (fun t k => XS.dup X105.here hx rfl (hb hby at_73) rfl rfl k) ?_
    show OGo p e below s room_1 (OLawQ n0) (T105.setTop (mkF m 74 #[.val (.int q1), .val (.int (1 : Int32)), .val (.int (1 : Int32)), .val (.ref sd), .val (.ref la), .val (.ref lb), .unset, .unset, .unset, .unset, .unset] [(.ref lc), (.ref lc)]))
    refine own_st (fun t k => XS.aconstNull X105.here hx rfl (hb hby at_74) k) ?_
    show OGo p e below s room_1 (OLawQ n0) (T105.setTop (mkF m 75 #[.val (.int q1), .val (.int (1 : Int32)), .val (.int (1 : Int32)), .val (.ref sd), .val (.ref la), .val (.ref lb), .unset, .unset, .unset, .unset, .unset] [.null, (.ref lc), (.ref lc)]))
    refine own_st (fun t k => XS.aloadN X105.here hx rfl (hb hby at_75) rfl rfl k) ?_
    show OGo p e below s room_1 (OLawQ n0) (T105.setTop (mkF m 76 #[.val (.int q1), .val (.int (1 : Int32)), .val (.int (1 : Int32)), .val (.ref sd), .val (.ref la), .val (.ref lb), .unset, .unset, .unset, .unset, .unset] [(.ref sd), .null, (.ref lc), (.ref lc)]))
    refine own_st (fun t k => XS.lconst X105.here hx rfl (hb hby at_76) k) ?_
    show OGo p e below s room_1 (OLawQ n0) (T105.setTop (mkF m 77 #[.val (.int q1), .val (.int (1 : Int32)), .val (.int (1 : Int32)), .val (.ref sd), .val (.ref la), .val (.ref lb), .unset, .unset, .unset, .unset, .unset] [(.long (1 : Int64)), (.ref sd), .null, (.ref lc), (.ref lc)]))
    refine own_st (fun t k => XS.iconst X105.here hx rfl (hb hby at_77) k) ?_
    show OGo p e below s room_1 (OLawQ n0) (T105.setTop (mkF m 78 #[.val (.int q1), .val (.int (1 : Int32)), .val (.int (1 : Int32)), .val (.ref sd), .val (.ref la), .val (.ref lb), .unset, .unset, .unset, .unset, .unset] [(.int (2 : Int32)), (.long (1 : Int64)), (.ref sd), .null, (.ref lc), (.ref lc)]))
    obtain ⟨_, T106, Lc106, X106, hQ106, st106⟩ := own_callI X105 hx hZ (y := (⟨"com/example/kurslot/kurslot/book/PriceLevel", "<init>", "(Lcom/example/kurslot/kurslot/book/OrderBook;Lcom/example/kurslot/kurslot/book/Side;JI)V"⟩ : MethodName)) (W := 1) rfl hown (hw _ (List.mem_of_getElem? (i := 7) rfl)) (hw _ (List.mem_of_getElem? (i := 8) rfl)) (hw _ (List.mem_of_getElem? (i := 9) rfl)) (hw _ (List.mem_of_getElem? (i := 5) rfl)) (by decide) (rm1 l Z a0 hw lc sd (1 : Int64) (2 : Int32) hp105 n0 Z0 old_lc E_lc F_better_lc F_worse_lc F_first_lc F_last_lc F_book_lc F_side_lc F_price_lc F_number_lc) (by decide) (by decide) (a := lc) (g := (mkF m 78 #[.val (.int q1), .val (.int (1 : Int32)), .val (.int (1 : Int32)), .val (.ref sd), .val (.ref la), .val (.ref lb), .unset, .unset, .unset, .unset, .unset] [(.int (2 : Int32)), (.long (1 : Int64)), (.ref sd), .null, (.ref lc), (.ref lc)])) rfl (by rw [hml]; rfl) (argsL := [.null, (.ref sd), (.long (1 : Int64)), (.int (2 : Int32))]) (rest := [(.ref lc)]) (lenOf pd_0 rfl) rfl (by show 2 * 0 + _ ≤ _; exact Nat.le_of_eq rfl) (hb hby at_78) rfl e105 (by decide) (by decide)
    obtain ⟨rfl, Nq106, Kq106, q106_0, q106_1, q106_2⟩ := hQ106
    have Z0 := Nat.le_trans Z0 Kq106.1
    have E_la := E_la.keep Kq106
    have F_better_la := F_better_la.keep Kq106 (ninS ne_la_lc nin0)
    have F_worse_la := F_worse_la.keep Kq106 (ninS ne_la_lc nin0)
    have E_lb := E_lb.keep Kq106
    have F_better_lb := F_better_lb.keep Kq106 (ninS ne_lb_lc nin0)
    have F_worse_lb := F_worse_lb.keep Kq106 (ninS ne_lb_lc nin0)
    have Nr106 := Fr.app Nr104 Nq106
    have E_lc := q106_0
    have F_better_lc := q106_1
    have F_worse_lc := q106_2
    refine own_st st106 ?_
    show OGo p e below s room_1 (OLawQ n0) (T106.setTop (mkF m 81 #[.val (.int q1), .val (.int (1 : Int32)), .val (.int (1 : Int32)), .val (.ref sd), .val (.ref la), .val (.ref lb), .unset, .unset, .unset, .unset, .unset] [(.ref lc)]))
    refine own_st (fun t k => XS.astore X106.here hx rfl (hb hby at_81) rfl rfl (l' := #[.val (.int q1), .val (.int (1 : Int32)), .val (.int (1 : Int32)), .val (.ref sd), .val (.ref la), .val (.ref lb), .val (.ref lc), .unset, .unset, .unset, .unset]) rfl k) ?_
    show OGo p e below s room_1 (OLawQ n0) (T106.setTop (mkF m 83 #[.val (.int q1), .val (.int (1 : Int32)), .val (.int (1 : Int32)), .val (.ref sd), .val (.ref la), .val (.ref lb), .val (.ref lc), .unset, .unset, .unset, .unset] []))
    obtain ⟨T107, hp107, X107, e107, Ex107, Aa107, Dd107, -, st107⟩ := newO X106 hx hZ hown (hw _ (List.mem_of_getElem? (i := 3) rfl)) (hw _ (List.mem_of_getElem? (i := 4) rfl)) (hw _ (List.mem_of_getElem? (i := 5) rfl)) rfl (g := (mkF m 83 #[.val (.int q1), .val (.int (1 : Int32)), .val (.int (1 : Int32)), .val (.ref sd), .val (.ref la), .val (.ref lb), .val (.ref lc), .unset, .unset, .unset, .unset] [])) rfl (hb hby at_83) (by decide) (by decide)
    obtain ⟨ld, gs107⟩ : ∃ z, z = T106.heap.size := ⟨_, rfl⟩
    rw [← gs107] at Aa107 Dd107 st107
    have ne_la_ld : la ≠ ld := Nat.ne_of_lt (Nat.lt_of_lt_of_le E_la.lt (Nat.le_of_eq gs107.symm))
    have ne_lb_ld : lb ≠ ld := Nat.ne_of_lt (Nat.lt_of_lt_of_le E_lb.lt (Nat.le_of_eq gs107.symm))
    have ne_lc_ld : lc ≠ ld := Nat.ne_of_lt (Nat.lt_of_lt_of_le E_lc.lt (Nat.le_of_eq gs107.symm))
    have old_ld : n0 ≤ ld := Nat.le_trans Z0 (Nat.le_of_eq gs107.symm)
    have Z0 := Nat.le_trans Z0 Ex107.1
    have E_la := E_la.ext Ex107
    have F_better_la := F_better_la.ext Ex107
    have F_worse_la := F_worse_la.ext Ex107
    have E_lb := E_lb.ext Ex107
    have F_better_lb := F_better_lb.ext Ex107
    have F_worse_lb := F_worse_lb.ext Ex107
    have E_lc := E_lc.ext Ex107
    have F_better_lc := F_better_lc.ext Ex107
    have F_worse_lc := F_worse_lc.ext Ex107
    have E_ld := Aa107
    have F_first_ld : Fld Z hp107 ld "com/example/kurslot/kurslot/book/PriceLevel" "first" "I" (.int (0 : Int32)) := Dd107 (Or.inl (hw _ (List.mem_of_getElem? (i := 14) rfl))) (ty := .int) (by decide)
    have F_last_ld : Fld Z hp107 ld "com/example/kurslot/kurslot/book/PriceLevel" "last" "I" (.int (0 : Int32)) := Dd107 (Or.inl (hw _ (List.mem_of_getElem? (i := 16) rfl))) (ty := .int) (by decide)
    have F_book_ld : Fld Z hp107 ld "com/example/kurslot/kurslot/book/PriceLevel" "book" "Lcom/example/kurslot/kurslot/book/OrderBook;" .null := Dd107 (Or.inr (hw _ (List.mem_of_getElem? (i := 18) rfl))) (ty := (.object "com/example/kurslot/kurslot/book/OrderBook")) (by decide)
    have F_side_ld : Fld Z hp107 ld "com/example/kurslot/kurslot/book/PriceLevel" "side" "Lcom/example/kurslot/kurslot/book/Side;" .null := Dd107 (Or.inr (hw _ (List.mem_of_getElem? (i := 20) rfl))) (ty := (.object "com/example/kurslot/kurslot/book/Side")) (by decide)
    have F_price_ld : Fld Z hp107 ld "com/example/kurslot/kurslot/book/PriceLevel" "price" "J" (.long (0 : Int64)) := Dd107 (Or.inr (hw _ (List.mem_of_getElem? (i := 22) rfl))) (ty := .long) (by decide)
    have F_number_ld : Fld Z hp107 ld "com/example/kurslot/kurslot/book/PriceLevel" "number" "I" (.int (0 : Int32)) := Dd107 (Or.inr (hw _ (List.mem_of_getElem? (i := 24) rfl))) (ty := .int) (by decide)
    have F_better_ld : Fld Z hp107 ld "com/example/kurslot/kurslot/book/PriceLevel" "better" "Lcom/example/kurslot/kurslot/book/PriceLevel;" .null := Dd107 (Or.inl (hw _ (List.mem_of_getElem? (i := 32) rfl))) (ty := (.object "com/example/kurslot/kurslot/book/PriceLevel")) (by decide)
    have F_worse_ld : Fld Z hp107 ld "com/example/kurslot/kurslot/book/PriceLevel" "worse" "Lcom/example/kurslot/kurslot/book/PriceLevel;" .null := Dd107 (Or.inl (hw _ (List.mem_of_getElem? (i := 34) rfl))) (ty := (.object "com/example/kurslot/kurslot/book/PriceLevel")) (by decide)
    refine own_st st107 ?_
    show OGo p e below s room_1 (OLawQ n0) (T107.setTop (mkF m 86 #[.val (.int q1), .val (.int (1 : Int32)), .val (.int (1 : Int32)), .val (.ref sd), .val (.ref la), .val (.ref lb), .val (.ref lc), .unset, .unset, .unset, .unset] [(.ref ld)]))
    refine own_st (fun t k => XS.dup X107.here hx rfl (hb hby at_86) rfl rfl k) ?_
    show OGo p e below s room_1 (OLawQ n0) (T107.setTop (mkF m 87 #[.val (.int q1), .val (.int (1 : Int32)), .val (.int (1 : Int32)), .val (.ref sd), .val (.ref la), .val (.ref lb), .val (.ref lc), .unset, .unset, .unset, .unset] [(.ref ld), (.ref ld)]))
    refine own_st (fun t k => XS.aconstNull X107.here hx rfl (hb hby at_87) k) ?_
    show OGo p e below s room_1 (OLawQ n0) (T107.setTop (mkF m 88 #[.val (.int q1), .val (.int (1 : Int32)), .val (.int (1 : Int32)), .val (.ref sd), .val (.ref la), .val (.ref lb), .val (.ref lc), .unset, .unset, .unset, .unset] [.null, (.ref ld), (.ref ld)]))
    refine own_st (fun t k => XS.aloadN X107.here hx rfl (hb hby at_88) rfl rfl k) ?_
    show OGo p e below s room_1 (OLawQ n0) (T107.setTop (mkF m 89 #[.val (.int q1), .val (.int (1 : Int32)), .val (.int (1 : Int32)), .val (.ref sd), .val (.ref la), .val (.ref lb), .val (.ref lc), .unset, .unset, .unset, .unset] [(.ref sd), .null, (.ref ld), (.ref ld)]))
    refine own_st (fun t k => XS.lconst X107.here hx rfl (hb hby at_89) k) ?_
    show OGo p e below s room_1 (OLawQ n0) (T107.setTop (mkF m 90 #[.val (.int q1), .val (.int (1 : Int32)), .val (.int (1 : Int32)), .val (.ref sd), .val (.ref la), .val (.ref lb), .val (.ref lc), .unset, .unset, .unset, .unset] [(.long (0 : Int64)), (.ref sd), .null, (.ref ld), (.ref ld)]))
    refine own_st (fun t k => XS.iconst X107.here hx rfl (hb hby at_90) k) ?_
    show OGo p e below s room_1 (OLawQ n0) (T107.setTop (mkF m 91 #[.val (.int q1), .val (.int (1 : Int32)), .val (.int (1 : Int32)), .val (.ref sd), .val (.ref la), .val (.ref lb), .val (.ref lc), .unset, .unset, .unset, .unset] [(.int (3 : Int32)), (.long (0 : Int64)), (.ref sd), .null, (.ref ld), (.ref ld)]))
    obtain ⟨_, T108, Lc108, X108, hQ108, st108⟩ := own_callI X107 hx hZ (y := (⟨"com/example/kurslot/kurslot/book/PriceLevel", "<init>", "(Lcom/example/kurslot/kurslot/book/OrderBook;Lcom/example/kurslot/kurslot/book/Side;JI)V"⟩ : MethodName)) (W := 1) rfl hown (hw _ (List.mem_of_getElem? (i := 7) rfl)) (hw _ (List.mem_of_getElem? (i := 8) rfl)) (hw _ (List.mem_of_getElem? (i := 9) rfl)) (hw _ (List.mem_of_getElem? (i := 5) rfl)) (by decide) (rm1 l Z a0 hw ld sd (0 : Int64) (3 : Int32) hp107 n0 Z0 old_ld E_ld F_better_ld F_worse_ld F_first_ld F_last_ld F_book_ld F_side_ld F_price_ld F_number_ld) (by decide) (by decide) (a := ld) (g := (mkF m 91 #[.val (.int q1), .val (.int (1 : Int32)), .val (.int (1 : Int32)), .val (.ref sd), .val (.ref la), .val (.ref lb), .val (.ref lc), .unset, .unset, .unset, .unset] [(.int (3 : Int32)), (.long (0 : Int64)), (.ref sd), .null, (.ref ld), (.ref ld)])) rfl (by rw [hml]; rfl) (argsL := [.null, (.ref sd), (.long (0 : Int64)), (.int (3 : Int32))]) (rest := [(.ref ld)]) (lenOf pd_0 rfl) rfl (by show 2 * 0 + _ ≤ _; exact Nat.le_of_eq rfl) (hb hby at_91) rfl e107 (by decide) (by decide)
    obtain ⟨rfl, Nq108, Kq108, q108_0, q108_1, q108_2⟩ := hQ108
    have Z0 := Nat.le_trans Z0 Kq108.1
    have E_la := E_la.keep Kq108
    have F_better_la := F_better_la.keep Kq108 (ninS ne_la_ld nin0)
    have F_worse_la := F_worse_la.keep Kq108 (ninS ne_la_ld nin0)
    have E_lb := E_lb.keep Kq108
    have F_better_lb := F_better_lb.keep Kq108 (ninS ne_lb_ld nin0)
    have F_worse_lb := F_worse_lb.keep Kq108 (ninS ne_lb_ld nin0)
    have E_lc := E_lc.keep Kq108
    have F_better_lc := F_better_lc.keep Kq108 (ninS ne_lc_ld nin0)
    have F_worse_lc := F_worse_lc.keep Kq108 (ninS ne_lc_ld nin0)
    have Nr108 := Fr.app Nr106 Nq108
    have E_ld := q108_0
    have F_better_ld := q108_1
    have F_worse_ld := q108_2
    refine own_st st108 ?_
    show OGo p e below s room_1 (OLawQ n0) (T108.setTop (mkF m 94 #[.val (.int q1), .val (.int (1 : Int32)), .val (.int (1 : Int32)), .val (.ref sd), .val (.ref la), .val (.ref lb), .val (.ref lc), .unset, .unset, .unset, .unset] [(.ref ld)]))
    refine own_st (fun t k => XS.astore X108.here hx rfl (hb hby at_94) rfl rfl (l' := #[.val (.int q1), .val (.int (1 : Int32)), .val (.int (1 : Int32)), .val (.ref sd), .val (.ref la), .val (.ref lb), .val (.ref lc), .val (.ref ld), .unset, .unset, .unset]) rfl k) ?_
    show OGo p e below s room_1 (OLawQ n0) (T108.setTop (mkF m 96 #[.val (.int q1), .val (.int (1 : Int32)), .val (.int (1 : Int32)), .val (.ref sd), .val (.ref la), .val (.ref lb), .val (.ref lc), .val (.ref ld), .unset, .unset, .unset] []))
    refine own_st (fun t k => XS.iloadN X108.here hx rfl (hb hby at_96) rfl k) ?_
    show OGo p e below s room_1 (OLawQ n0) (T108.setTop (mkF m 97 #[.val (.int q1), .val (.int (1 : Int32)), .val (.int (1 : Int32)), .val (.ref sd), .val (.ref la), .val (.ref lb), .val (.ref lc), .val (.ref ld), .unset, .unset, .unset] [(.int (1 : Int32))]))
    refine own_st (fun t k => XS.ifNo X108.here hx rfl (hb hby at_97) rfl ((if0 _ _).trans (feq ((by decide : ¬ (1 : Int32) = (0 : Int32)))).1) k) ?_
    show OGo p e below s room_1 (OLawQ n0) (T108.setTop (mkF m 100 #[.val (.int q1), .val (.int (1 : Int32)), .val (.int (1 : Int32)), .val (.ref sd), .val (.ref la), .val (.ref lb), .val (.ref lc), .val (.ref ld), .unset, .unset, .unset] []))
    refine own_st (fun t k => XS.aload X108.here hx rfl (hb hby at_100) rfl rfl k) ?_
    show OGo p e below s room_1 (OLawQ n0) (T108.setTop (mkF m 102 #[.val (.int q1), .val (.int (1 : Int32)), .val (.int (1 : Int32)), .val (.ref sd), .val (.ref la), .val (.ref lb), .val (.ref lc), .val (.ref ld), .unset, .unset, .unset] [(.ref la)]))
    refine own_st (fun t k => XS.goto X108.here hx rfl (pc0 := 102) (pc' := 106) rfl (hb hby at_102) (by decide) (by decide) k) ?_
    show OGo p e below s room_1 (OLawQ n0) (T108.setTop (mkF m 106 #[.val (.int q1), .val (.int (1 : Int32)), .val (.int (1 : Int32)), .val (.ref sd), .val (.ref la), .val (.ref lb), .val (.ref lc), .val (.ref ld), .unset, .unset, .unset] [(.ref la)]))
    refine own_st (fun t k => XS.astore X108.here hx rfl (hb hby at_106) rfl rfl (l' := #[.val (.int q1), .val (.int (1 : Int32)), .val (.int (1 : Int32)), .val (.ref sd), .val (.ref la), .val (.ref lb), .val (.ref lc), .val (.ref ld), .val (.ref la), .unset, .unset]) rfl k) ?_
    show OGo p e below s room_1 (OLawQ n0) (T108.setTop (mkF m 108 #[.val (.int q1), .val (.int (1 : Int32)), .val (.int (1 : Int32)), .val (.ref sd), .val (.ref la), .val (.ref lb), .val (.ref lc), .val (.ref ld), .val (.ref la), .unset, .unset] []))
    refine own_st (fun t k => XS.iloadN X108.here hx rfl (hb hby at_108) rfl k) ?_
    show OGo p e below s room_1 (OLawQ n0) (T108.setTop (mkF m 109 #[.val (.int q1), .val (.int (1 : Int32)), .val (.int (1 : Int32)), .val (.ref sd), .val (.ref la), .val (.ref lb), .val (.ref lc), .val (.ref ld), .val (.ref la), .unset, .unset] [(.int (1 : Int32))]))
    refine own_st (fun t k => XS.ifNo X108.here hx rfl (hb hby at_109) rfl ((if0 _ _).trans (feq ((by decide : ¬ (1 : Int32) = (0 : Int32)))).1) k) ?_
    show OGo p e below s room_1 (OLawQ n0) (T108.setTop (mkF m 112 #[.val (.int q1), .val (.int (1 : Int32)), .val (.int (1 : Int32)), .val (.ref sd), .val (.ref la), .val (.ref lb), .val (.ref lc), .val (.ref ld), .val (.ref la), .unset, .unset] []))
    refine own_st (fun t k => XS.aload X108.here hx rfl (hb hby at_112) rfl rfl k) ?_
    show OGo p e below s room_1 (OLawQ n0) (T108.setTop (mkF m 114 #[.val (.int q1), .val (.int (1 : Int32)), .val (.int (1 : Int32)), .val (.ref sd), .val (.ref la), .val (.ref lb), .val (.ref lc), .val (.ref ld), .val (.ref la), .unset, .unset] [(.ref lc)]))
    refine own_st (fun t k => XS.goto X108.here hx rfl (pc0 := 114) (pc' := 118) rfl (hb hby at_114) (by decide) (by decide) k) ?_
    show OGo p e below s room_1 (OLawQ n0) (T108.setTop (mkF m 118 #[.val (.int q1), .val (.int (1 : Int32)), .val (.int (1 : Int32)), .val (.ref sd), .val (.ref la), .val (.ref lb), .val (.ref lc), .val (.ref ld), .val (.ref la), .unset, .unset] [(.ref lc)]))
    refine own_st (fun t k => XS.astore X108.here hx rfl (hb hby at_118) rfl rfl (l' := #[.val (.int q1), .val (.int (1 : Int32)), .val (.int (1 : Int32)), .val (.ref sd), .val (.ref la), .val (.ref lb), .val (.ref lc), .val (.ref ld), .val (.ref la), .val (.ref lc), .unset]) rfl k) ?_
    show OGo p e below s room_1 (OLawQ n0) (T108.setTop (mkF m 120 #[.val (.int q1), .val (.int (1 : Int32)), .val (.int (1 : Int32)), .val (.ref sd), .val (.ref la), .val (.ref lb), .val (.ref lc), .val (.ref ld), .val (.ref la), .val (.ref lc), .unset] []))
    refine own_st (fun t k => XS.iloadN X108.here hx rfl (hb hby at_120) rfl k) ?_
    show OGo p e below s room_1 (OLawQ n0) (T108.setTop (mkF m 121 #[.val (.int q1), .val (.int (1 : Int32)), .val (.int (1 : Int32)), .val (.ref sd), .val (.ref la), .val (.ref lb), .val (.ref lc), .val (.ref ld), .val (.ref la), .val (.ref lc), .unset] [(.int (1 : Int32))]))
    refine own_st (fun t k => XS.ifNo X108.here hx rfl (hb hby at_121) rfl ((if0 _ _).trans (feq ((by decide : ¬ (1 : Int32) = (0 : Int32)))).1) k) ?_
    show OGo p e below s room_1 (OLawQ n0) (T108.setTop (mkF m 124 #[.val (.int q1), .val (.int (1 : Int32)), .val (.int (1 : Int32)), .val (.ref sd), .val (.ref la), .val (.ref lb), .val (.ref lc), .val (.ref ld), .val (.ref la), .val (.ref lc), .unset] []))
    refine own_st (fun t k => XS.aload X108.here hx rfl (hb hby at_124) rfl rfl k) ?_
    show OGo p e below s room_1 (OLawQ n0) (T108.setTop (mkF m 126 #[.val (.int q1), .val (.int (1 : Int32)), .val (.int (1 : Int32)), .val (.ref sd), .val (.ref la), .val (.ref lb), .val (.ref lc), .val (.ref ld), .val (.ref la), .val (.ref lc), .unset] [(.ref lc)]))
    refine own_st (fun t k => XS.aconstNull X108.here hx rfl (hb hby at_126) k) ?_
    show OGo p e below s room_1 (OLawQ n0) (T108.setTop (mkF m 127 #[.val (.int q1), .val (.int (1 : Int32)), .val (.int (1 : Int32)), .val (.ref sd), .val (.ref la), .val (.ref lb), .val (.ref lc), .val (.ref ld), .val (.ref la), .val (.ref lc), .unset] [.null, (.ref lc)]))
    refine own_st (fun t k => XS.aload X108.here hx rfl (hb hby at_127) rfl rfl k) ?_
    show OGo p e below s room_1 (OLawQ n0) (T108.setTop (mkF m 129 #[.val (.int q1), .val (.int (1 : Int32)), .val (.int (1 : Int32)), .val (.ref sd), .val (.ref la), .val (.ref lb), .val (.ref lc), .val (.ref ld), .val (.ref la), .val (.ref lc), .unset] [(.ref ld), .null, (.ref lc)]))
    obtain ⟨_, T109, Lc109, X109, hQ109, st109⟩ := own_callV X108 hx hZ (y := (⟨"com/example/kurslot/kurslot/book/PriceLevel", "linkBetween", "(Lcom/example/kurslot/kurslot/book/PriceLevel;Lcom/example/kurslot/kurslot/book/PriceLevel;)V"⟩ : MethodName)) (z := (⟨"com/example/kurslot/kurslot/book/PriceLevel", "linkBetween", "(Lcom/example/kurslot/kurslot/book/PriceLevel;Lcom/example/kurslot/kurslot/book/PriceLevel;)V"⟩ : MethodName)) (W := 0) hown (hw _ (List.mem_of_getElem? (i := 26) rfl)) (hw _ (List.mem_of_getElem? (i := 27) rfl)) (notFace_of_selects (args := #[]) (mvT hZ (hw _ (List.mem_of_getElem? (i := 29) rfl)))) (hw _ (List.mem_of_getElem? (i := 29) rfl)) (hw _ (List.mem_of_getElem? (i := 28) rfl)) (hw _ (List.mem_of_getElem? (i := 30) rfl)) (hw _ (List.mem_of_getElem? (i := 5) rfl)) (by decide) (rm3_nd l Z a0 hw lc ld T108.heap n0 Z0 old_lc old_ld ne_lc_ld E_lc F_better_lc F_worse_lc E_ld F_better_ld F_worse_ld) (by decide) (by decide) E_lc (g := (mkF m 129 #[.val (.int q1), .val (.int (1 : Int32)), .val (.int (1 : Int32)), .val (.ref sd), .val (.ref la), .val (.ref lb), .val (.ref lc), .val (.ref ld), .val (.ref la), .val (.ref lc), .unset] [(.ref ld), .null, (.ref lc)])) rfl (by rw [hml]; rfl) (argsL := [.null, (.ref ld)]) (rest := []) (lenOf pd_1 rfl) rfl (by show 2 * 0 + _ ≤ _; exact Nat.le_of_eq rfl) (hb hby at_129) rfl rfl (by decide) (by decide)
    obtain ⟨rfl, Nq109, Kq109, q109_0, q109_1, q109_2, q109_3, q109_4, q109_5⟩ := hQ109
    have Z0 := Nat.le_trans Z0 Kq109.1
    have E_la := E_la.keep Kq109
    have F_better_la := F_better_la.keep Kq109 (ninS ne_la_lc (ninS ne_la_ld nin0))
    have F_worse_la := F_worse_la.keep Kq109 (ninS ne_la_lc (ninS ne_la_ld nin0))
    have E_lb := E_lb.keep Kq109
    have F_better_lb := F_better_lb.keep Kq109 (ninS ne_lb_lc (ninS ne_lb_ld nin0))
    have F_worse_lb := F_worse_lb.keep Kq109 (ninS ne_lb_lc (ninS ne_lb_ld nin0))
    have Nr109 := Fr.app Nr108 Nq109
    have E_lc := q109_0
    have F_better_lc := q109_1
    have F_worse_lc := q109_2
    have E_ld := q109_3
    have F_better_ld := q109_4
    have F_worse_ld := q109_5
    refine own_st st109 ?_
    show OGo p e below s room_1 (OLawQ n0) (T109.setTop (mkF m 132 #[.val (.int q1), .val (.int (1 : Int32)), .val (.int (1 : Int32)), .val (.ref sd), .val (.ref la), .val (.ref lb), .val (.ref lc), .val (.ref ld), .val (.ref la), .val (.ref lc), .unset] []))
    refine own_st (fun t k => XS.aload X109.here hx rfl (hb hby at_132) rfl rfl k) ?_
    show OGo p e below s room_1 (OLawQ n0) (T109.setTop (mkF m 134 #[.val (.int q1), .val (.int (1 : Int32)), .val (.int (1 : Int32)), .val (.ref sd), .val (.ref la), .val (.ref lb), .val (.ref lc), .val (.ref ld), .val (.ref la), .val (.ref lc), .unset] [(.ref lb)]))
    refine own_st (fun t k => XS.aload X109.here hx rfl (hb hby at_134) rfl rfl k) ?_
    show OGo p e below s room_1 (OLawQ n0) (T109.setTop (mkF m 136 #[.val (.int q1), .val (.int (1 : Int32)), .val (.int (1 : Int32)), .val (.ref sd), .val (.ref la), .val (.ref lb), .val (.ref lc), .val (.ref ld), .val (.ref la), .val (.ref lc), .unset] [(.ref la), (.ref lb)]))
    refine own_st (fun t k => XS.aload X109.here hx rfl (hb hby at_136) rfl rfl k) ?_
    show OGo p e below s room_1 (OLawQ n0) (T109.setTop (mkF m 138 #[.val (.int q1), .val (.int (1 : Int32)), .val (.int (1 : Int32)), .val (.ref sd), .val (.ref la), .val (.ref lb), .val (.ref lc), .val (.ref ld), .val (.ref la), .val (.ref lc), .unset] [(.ref lc), (.ref la), (.ref lb)]))
    obtain ⟨_, T110, Lc110, X110, hQ110, st110⟩ := own_callV X109 hx hZ (y := (⟨"com/example/kurslot/kurslot/book/PriceLevel", "linkBetween", "(Lcom/example/kurslot/kurslot/book/PriceLevel;Lcom/example/kurslot/kurslot/book/PriceLevel;)V"⟩ : MethodName)) (z := (⟨"com/example/kurslot/kurslot/book/PriceLevel", "linkBetween", "(Lcom/example/kurslot/kurslot/book/PriceLevel;Lcom/example/kurslot/kurslot/book/PriceLevel;)V"⟩ : MethodName)) (W := 0) hown (hw _ (List.mem_of_getElem? (i := 26) rfl)) (hw _ (List.mem_of_getElem? (i := 27) rfl)) (notFace_of_selects (args := #[]) (mvT hZ (hw _ (List.mem_of_getElem? (i := 29) rfl)))) (hw _ (List.mem_of_getElem? (i := 29) rfl)) (hw _ (List.mem_of_getElem? (i := 28) rfl)) (hw _ (List.mem_of_getElem? (i := 30) rfl)) (hw _ (List.mem_of_getElem? (i := 5) rfl)) (by decide) (rm3_11 l Z a0 hw lb la lc ld T109.heap n0 Z0 old_lb old_la old_lc (Ne.symm ne_la_lb) ne_lb_lc ne_la_lc E_lb F_better_lb F_worse_lb E_la F_better_la F_worse_la E_lc F_better_lc F_worse_lc) (by decide) (by decide) E_lb (g := (mkF m 138 #[.val (.int q1), .val (.int (1 : Int32)), .val (.int (1 : Int32)), .val (.ref sd), .val (.ref la), .val (.ref lb), .val (.ref lc), .val (.ref ld), .val (.ref la), .val (.ref lc), .unset] [(.ref lc), (.ref la), (.ref lb)])) rfl (by rw [hml]; rfl) (argsL := [(.ref la), (.ref lc)]) (rest := []) (lenOf pd_1 rfl) rfl (by show 2 * 0 + _ ≤ _; exact Nat.le_of_eq rfl) (hb hby at_138) rfl rfl (by decide) (by decide)
    obtain ⟨rfl, Nq110, Kq110, q110_0, q110_1, q110_2, q110_3, q110_4, q110_5, q110_6, q110_7, q110_8⟩ := hQ110
    have Z0 := Nat.le_trans Z0 Kq110.1
    have E_ld := E_ld.keep Kq110
    have F_better_ld := F_better_ld.keep Kq110 (ninS (Ne.symm ne_lb_ld) (ninS (Ne.symm ne_la_ld) (ninS (Ne.symm ne_lc_ld) nin0)))
    have F_worse_ld := F_worse_ld.keep Kq110 (ninS (Ne.symm ne_lb_ld) (ninS (Ne.symm ne_la_ld) (ninS (Ne.symm ne_lc_ld) nin0)))
    have Nr110 := Fr.app Nr109 Nq110
    have E_lb := q110_0
    have F_better_lb := q110_1
    have F_worse_lb := q110_2
    have E_la := q110_3
    have F_better_la := q110_4
    have F_worse_la := q110_5
    have E_lc := q110_6
    have F_better_lc := q110_7
    have F_worse_lc := q110_8
    refine own_st st110 ?_
    show OGo p e below s room_1 (OLawQ n0) (T110.setTop (mkF m 141 #[.val (.int q1), .val (.int (1 : Int32)), .val (.int (1 : Int32)), .val (.ref sd), .val (.ref la), .val (.ref lb), .val (.ref lc), .val (.ref ld), .val (.ref la), .val (.ref lc), .unset] []))
    refine own_st (fun t k => XS.aload X110.here hx rfl (hb hby at_141) rfl rfl k) ?_
    show OGo p e below s room_1 (OLawQ n0) (T110.setTop (mkF m 143 #[.val (.int q1), .val (.int (1 : Int32)), .val (.int (1 : Int32)), .val (.ref sd), .val (.ref la), .val (.ref lb), .val (.ref lc), .val (.ref ld), .val (.ref la), .val (.ref lc), .unset] [(.ref lb)]))
    obtain ⟨_, T111, Lc111, X111, hQ111, st111⟩ := own_callV X110 hx hZ (y := (⟨"com/example/kurslot/kurslot/book/PriceLevel", "unlink", "()V"⟩ : MethodName)) (z := (⟨"com/example/kurslot/kurslot/book/PriceLevel", "unlink", "()V"⟩ : MethodName)) (W := 0) hown (hw _ (List.mem_of_getElem? (i := 35) rfl)) (hw _ (List.mem_of_getElem? (i := 36) rfl)) (notFace_of_selects (args := #[]) (mvT hZ (hw _ (List.mem_of_getElem? (i := 38) rfl)))) (hw _ (List.mem_of_getElem? (i := 38) rfl)) (hw _ (List.mem_of_getElem? (i := 37) rfl)) (hw _ (List.mem_of_getElem? (i := 39) rfl)) (hw _ (List.mem_of_getElem? (i := 5) rfl)) (by decide) (rm4_11 l Z a0 hw lb la lc (.ref ld) T110.heap n0 Z0 old_lb old_la old_lc (Ne.symm ne_la_lb) ne_lb_lc ne_la_lc E_lb F_better_lb F_worse_lb E_la F_better_la F_worse_la E_lc F_better_lc F_worse_lc) (by decide) (by decide) E_lb (g := (mkF m 143 #[.val (.int q1), .val (.int (1 : Int32)), .val (.int (1 : Int32)), .val (.ref sd), .val (.ref la), .val (.ref lb), .val (.ref lc), .val (.ref ld), .val (.ref la), .val (.ref lc), .unset] [(.ref lb)])) rfl (by rw [hml]; rfl) (argsL := []) (rest := []) (lenOf pd_2 rfl) rfl (by show 2 * 0 + _ ≤ _; exact Nat.le_of_eq rfl) (hb hby at_143) rfl rfl (by decide) (by decide)
    obtain ⟨rfl, Nq111, Kq111, q111_0, q111_1, q111_2, q111_3, q111_4, q111_5, q111_6, q111_7, q111_8⟩ := hQ111
    have Z0 := Nat.le_trans Z0 Kq111.1
    have E_ld := E_ld.keep Kq111
    have F_better_ld := F_better_ld.keep Kq111 (ninS (Ne.symm ne_lb_ld) (ninS (Ne.symm ne_la_ld) (ninS (Ne.symm ne_lc_ld) nin0)))
    have F_worse_ld := F_worse_ld.keep Kq111 (ninS (Ne.symm ne_lb_ld) (ninS (Ne.symm ne_la_ld) (ninS (Ne.symm ne_lc_ld) nin0)))
    have Nr111 := Fr.app Nr110 Nq111
    have E_lb := q111_0
    have F_better_lb := q111_1
    have F_worse_lb := q111_2
    have E_la := q111_3
    have F_better_la := q111_4
    have F_worse_la := q111_5
    have E_lc := q111_6
    have F_better_lc := q111_7
    have F_worse_lc := q111_8
    refine own_st st111 ?_
    show OGo p e below s room_1 (OLawQ n0) (T111.setTop (mkF m 146 #[.val (.int q1), .val (.int (1 : Int32)), .val (.int (1 : Int32)), .val (.ref sd), .val (.ref la), .val (.ref lb), .val (.ref lc), .val (.ref ld), .val (.ref la), .val (.ref lc), .unset] []))
    refine own_st (fun t k => XS.aload X111.here hx rfl (hb hby at_146) rfl rfl k) ?_
    show OGo p e below s room_1 (OLawQ n0) (T111.setTop (mkF m 148 #[.val (.int q1), .val (.int (1 : Int32)), .val (.int (1 : Int32)), .val (.ref sd), .val (.ref la), .val (.ref lb), .val (.ref lc), .val (.ref ld), .val (.ref la), .val (.ref lc), .unset] [(.ref lb)]))
    obtain ⟨T112, X112, e112, st112⟩ := own_callVP X111 hx hZ (y := (⟨"com/example/kurslot/kurslot/book/PriceLevel", "worse", "()Lcom/example/kurslot/kurslot/book/PriceLevel;"⟩ : MethodName)) (z := (⟨"com/example/kurslot/kurslot/book/PriceLevel", "worse", "()Lcom/example/kurslot/kurslot/book/PriceLevel;"⟩ : MethodName)) (W := 0) hown (hw _ (List.mem_of_getElem? (i := 40) rfl)) (hw _ (List.mem_of_getElem? (i := 41) rfl)) (notFace_of_selects (args := #[]) (mvT hZ (hw _ (List.mem_of_getElem? (i := 43) rfl)))) (hw _ (List.mem_of_getElem? (i := 43) rfl)) (hw _ (List.mem_of_getElem? (i := 42) rfl)) (hw _ (List.mem_of_getElem? (i := 44) rfl)) (hw _ (List.mem_of_getElem? (i := 5) rfl)) (by decide) (rm5_0 l Z a0 hw lb T111.heap F_worse_lb) (by decide) (by decide) E_lb (g := (mkF m 148 #[.val (.int q1), .val (.int (1 : Int32)), .val (.int (1 : Int32)), .val (.ref sd), .val (.ref la), .val (.ref lb), .val (.ref lc), .val (.ref ld), .val (.ref la), .val (.ref lc), .unset] [(.ref lb)])) rfl (by rw [hml]; rfl) (argsL := []) (rest := []) (lenOf pd_3 rfl) rfl (by show 2 * 0 + _ ≤ _; exact Nat.le_of_eq rfl) (hb hby at_148) rfl rfl (by decide) (by decide)
    refine own_st st112 ?_
    show OGo p e below s room_1 (OLawQ n0) (T112.setTop (mkF m 151 #[.val (.int q1), .val (.int (1 : Int32)), .val (.int (1 : Int32)), .val (.ref sd), .val (.ref la), .val (.ref lb), .val (.ref lc), .val (.ref ld), .val (.ref la), .val (.ref lc), .unset] [.null]))
    refine own_st (fun t k => XS.ifnonnullNo X112.here hx rfl (hb hby at_151) rfl k) ?_
    show OGo p e below s room_1 (OLawQ n0) (T112.setTop (mkF m 154 #[.val (.int q1), .val (.int (1 : Int32)), .val (.int (1 : Int32)), .val (.ref sd), .val (.ref la), .val (.ref lb), .val (.ref lc), .val (.ref ld), .val (.ref la), .val (.ref lc), .unset] []))
    refine own_st (fun t k => XS.iconst X112.here hx rfl (hb hby at_154) k) ?_
    show OGo p e below s room_1 (OLawQ n0) (T112.setTop (mkF m 155 #[.val (.int q1), .val (.int (1 : Int32)), .val (.int (1 : Int32)), .val (.ref sd), .val (.ref la), .val (.ref lb), .val (.ref lc), .val (.ref ld), .val (.ref la), .val (.ref lc), .unset] [(.int (1 : Int32))]))
    refine own_st (fun t k => XS.goto X112.here hx rfl (pc0 := 155) (pc' := 159) rfl (hb hby at_155) (by decide) (by decide) k) ?_
    show OGo p e below s room_1 (OLawQ n0) (T112.setTop (mkF m 159 #[.val (.int q1), .val (.int (1 : Int32)), .val (.int (1 : Int32)), .val (.ref sd), .val (.ref la), .val (.ref lb), .val (.ref lc), .val (.ref ld), .val (.ref la), .val (.ref lc), .unset] [(.int (1 : Int32))]))
    refine own_st (fun t k => XS.istore X112.here hx rfl (hb hby at_159) rfl (l' := #[.val (.int q1), .val (.int (1 : Int32)), .val (.int (1 : Int32)), .val (.ref sd), .val (.ref la), .val (.ref lb), .val (.ref lc), .val (.ref ld), .val (.ref la), .val (.ref lc), .val (.int (1 : Int32))]) rfl k) ?_
    show OGo p e below s room_1 (OLawQ n0) (T112.setTop (mkF m 161 #[.val (.int q1), .val (.int (1 : Int32)), .val (.int (1 : Int32)), .val (.ref sd), .val (.ref la), .val (.ref lb), .val (.ref lc), .val (.ref ld), .val (.ref la), .val (.ref lc), .val (.int (1 : Int32))] []))
    refine own_st (fun t k => XS.iloadN X112.here hx rfl (hb hby at_161) rfl k) ?_
    show OGo p e below s room_1 (OLawQ n0) (T112.setTop (mkF m 162 #[.val (.int q1), .val (.int (1 : Int32)), .val (.int (1 : Int32)), .val (.ref sd), .val (.ref la), .val (.ref lb), .val (.ref lc), .val (.ref ld), .val (.ref la), .val (.ref lc), .val (.int (1 : Int32))] [(.int (1 : Int32))]))
    refine own_st (fun t k => XS.ifNo X112.here hx rfl (hb hby at_162) rfl ((if0 _ _).trans (feq ((by decide : ¬ (1 : Int32) = (0 : Int32)))).1) k) ?_
    show OGo p e below s room_1 (OLawQ n0) (T112.setTop (mkF m 165 #[.val (.int q1), .val (.int (1 : Int32)), .val (.int (1 : Int32)), .val (.ref sd), .val (.ref la), .val (.ref lb), .val (.ref lc), .val (.ref ld), .val (.ref la), .val (.ref lc), .val (.int (1 : Int32))] []))
    refine own_st (fun t k => XS.iload X112.here hx rfl (hb hby at_165) rfl k) ?_
    show OGo p e below s room_1 (OLawQ n0) (T112.setTop (mkF m 167 #[.val (.int q1), .val (.int (1 : Int32)), .val (.int (1 : Int32)), .val (.ref sd), .val (.ref la), .val (.ref lb), .val (.ref lc), .val (.ref ld), .val (.ref la), .val (.ref lc), .val (.int (1 : Int32))] [(.int (1 : Int32))]))
    refine own_st (fun t k => XS.ifNo X112.here hx rfl (hb hby at_167) rfl ((if0 _ _).trans (feq ((by decide : ¬ (1 : Int32) = (0 : Int32)))).1) k) ?_
    show OGo p e below s room_1 (OLawQ n0) (T112.setTop (mkF m 170 #[.val (.int q1), .val (.int (1 : Int32)), .val (.int (1 : Int32)), .val (.ref sd), .val (.ref la), .val (.ref lb), .val (.ref lc), .val (.ref ld), .val (.ref la), .val (.ref lc), .val (.int (1 : Int32))] []))
    refine own_st (fun t k => XS.aload X112.here hx rfl (hb hby at_170) rfl rfl k) ?_
    show OGo p e below s room_1 (OLawQ n0) (T112.setTop (mkF m 172 #[.val (.int q1), .val (.int (1 : Int32)), .val (.int (1 : Int32)), .val (.ref sd), .val (.ref la), .val (.ref lb), .val (.ref lc), .val (.ref ld), .val (.ref la), .val (.ref lc), .val (.int (1 : Int32))] [(.ref la)]))
    obtain ⟨T113, X113, e113, st113⟩ := own_callVP X112 hx hZ (y := (⟨"com/example/kurslot/kurslot/book/PriceLevel", "worse", "()Lcom/example/kurslot/kurslot/book/PriceLevel;"⟩ : MethodName)) (z := (⟨"com/example/kurslot/kurslot/book/PriceLevel", "worse", "()Lcom/example/kurslot/kurslot/book/PriceLevel;"⟩ : MethodName)) (W := 0) hown (hw _ (List.mem_of_getElem? (i := 40) rfl)) (hw _ (List.mem_of_getElem? (i := 41) rfl)) (notFace_of_selects (args := #[]) (mvT hZ (hw _ (List.mem_of_getElem? (i := 43) rfl)))) (hw _ (List.mem_of_getElem? (i := 43) rfl)) (hw _ (List.mem_of_getElem? (i := 42) rfl)) (hw _ (List.mem_of_getElem? (i := 44) rfl)) (hw _ (List.mem_of_getElem? (i := 5) rfl)) (by decide) (rm5_1 l Z a0 hw la lc T111.heap F_worse_la) (by decide) (by decide) E_la (g := (mkF m 172 #[.val (.int q1), .val (.int (1 : Int32)), .val (.int (1 : Int32)), .val (.ref sd), .val (.ref la), .val (.ref lb), .val (.ref lc), .val (.ref ld), .val (.ref la), .val (.ref lc), .val (.int (1 : Int32))] [(.ref la)])) rfl (by rw [hml]; rfl) (argsL := []) (rest := []) (lenOf pd_3 rfl) rfl (by show 2 * 0 + _ ≤ _; exact Nat.le_of_eq rfl) (hb hby at_172) rfl e112 (by decide) (by decide)
    refine own_st st113 ?_
    show OGo p e below s room_1 (OLawQ n0) (T113.setTop (mkF m 175 #[.val (.int q1), .val (.int (1 : Int32)), .val (.int (1 : Int32)), .val (.ref sd), .val (.ref la), .val (.ref lb), .val (.ref lc), .val (.ref ld), .val (.ref la), .val (.ref lc), .val (.int (1 : Int32))] [(.ref lc)]))
    refine own_st (fun t k => XS.aload X113.here hx rfl (hb hby at_175) rfl rfl k) ?_
    show OGo p e below s room_1 (OLawQ n0) (T113.setTop (mkF m 177 #[.val (.int q1), .val (.int (1 : Int32)), .val (.int (1 : Int32)), .val (.ref sd), .val (.ref la), .val (.ref lb), .val (.ref lc), .val (.ref ld), .val (.ref la), .val (.ref lc), .val (.int (1 : Int32))] [(.ref lc), (.ref lc)]))
    refine own_st (fun t k => Jvm.RoadKit.acmp (g := (mkF m 177 #[.val (.int q1), .val (.int (1 : Int32)), .val (.int (1 : Int32)), .val (.ref sd), .val (.ref la), .val (.ref lb), .val (.ref lc), .val (.ref ld), .val (.ref la), .val (.ref lc), .val (.int (1 : Int32))] [(.ref lc), (.ref lc)])) X113 hx rfl rfl rfl (pc0 := 177) (pc' := 180) (same := true) rfl (hb hby at_177) rfl (decide_eq_true rfl) (by decide) (by decide) k) ?_
    show OGo p e below s room_1 (OLawQ n0) (T113.setTop (mkF m 180 #[.val (.int q1), .val (.int (1 : Int32)), .val (.int (1 : Int32)), .val (.ref sd), .val (.ref la), .val (.ref lb), .val (.ref lc), .val (.ref ld), .val (.ref la), .val (.ref lc), .val (.int (1 : Int32))] []))
    refine own_st (fun t k => XS.iconst X113.here hx rfl (hb hby at_180) k) ?_
    show OGo p e below s room_1 (OLawQ n0) (T113.setTop (mkF m 181 #[.val (.int q1), .val (.int (1 : Int32)), .val (.int (1 : Int32)), .val (.ref sd), .val (.ref la), .val (.ref lb), .val (.ref lc), .val (.ref ld), .val (.ref la), .val (.ref lc), .val (.int (1 : Int32))] [(.int (1 : Int32))]))
    refine own_st (fun t k => XS.goto X113.here hx rfl (pc0 := 181) (pc' := 185) rfl (hb hby at_181) (by decide) (by decide) k) ?_
    show OGo p e below s room_1 (OLawQ n0) (T113.setTop (mkF m 185 #[.val (.int q1), .val (.int (1 : Int32)), .val (.int (1 : Int32)), .val (.ref sd), .val (.ref la), .val (.ref lb), .val (.ref lc), .val (.ref ld), .val (.ref la), .val (.ref lc), .val (.int (1 : Int32))] [(.int (1 : Int32))]))
    refine own_st (fun t k => XS.istore X113.here hx rfl (hb hby at_185) rfl (l' := #[.val (.int q1), .val (.int (1 : Int32)), .val (.int (1 : Int32)), .val (.ref sd), .val (.ref la), .val (.ref lb), .val (.ref lc), .val (.ref ld), .val (.ref la), .val (.ref lc), .val (.int (1 : Int32))]) rfl k) ?_
    show OGo p e below s room_1 (OLawQ n0) (T113.setTop (mkF m 187 #[.val (.int q1), .val (.int (1 : Int32)), .val (.int (1 : Int32)), .val (.ref sd), .val (.ref la), .val (.ref lb), .val (.ref lc), .val (.ref ld), .val (.ref la), .val (.ref lc), .val (.int (1 : Int32))] []))
    refine own_st (fun t k => XS.iloadN X113.here hx rfl (hb hby at_187) rfl k) ?_
    show OGo p e below s room_1 (OLawQ n0) (T113.setTop (mkF m 188 #[.val (.int q1), .val (.int (1 : Int32)), .val (.int (1 : Int32)), .val (.ref sd), .val (.ref la), .val (.ref lb), .val (.ref lc), .val (.ref ld), .val (.ref la), .val (.ref lc), .val (.int (1 : Int32))] [(.int (1 : Int32))]))
    refine own_st (fun t k => XS.ifNo X113.here hx rfl (hb hby at_188) rfl ((if0 _ _).trans (feq ((by decide : ¬ (1 : Int32) = (0 : Int32)))).1) k) ?_
    show OGo p e below s room_1 (OLawQ n0) (T113.setTop (mkF m 191 #[.val (.int q1), .val (.int (1 : Int32)), .val (.int (1 : Int32)), .val (.ref sd), .val (.ref la), .val (.ref lb), .val (.ref lc), .val (.ref ld), .val (.ref la), .val (.ref lc), .val (.int (1 : Int32))] []))
    refine own_st (fun t k => XS.iload X113.here hx rfl (hb hby at_191) rfl k) ?_
    show OGo p e below s room_1 (OLawQ n0) (T113.setTop (mkF m 193 #[.val (.int q1), .val (.int (1 : Int32)), .val (.int (1 : Int32)), .val (.ref sd), .val (.ref la), .val (.ref lb), .val (.ref lc), .val (.ref ld), .val (.ref la), .val (.ref lc), .val (.int (1 : Int32))] [(.int (1 : Int32))]))
    refine own_st (fun t k => XS.ifNo X113.here hx rfl (hb hby at_193) rfl ((if0 _ _).trans (feq ((by decide : ¬ (1 : Int32) = (0 : Int32)))).1) k) ?_
    show OGo p e below s room_1 (OLawQ n0) (T113.setTop (mkF m 196 #[.val (.int q1), .val (.int (1 : Int32)), .val (.int (1 : Int32)), .val (.ref sd), .val (.ref la), .val (.ref lb), .val (.ref lc), .val (.ref ld), .val (.ref la), .val (.ref lc), .val (.int (1 : Int32))] []))
    refine own_st (fun t k => XS.aload X113.here hx rfl (hb hby at_196) rfl rfl k) ?_
    show OGo p e below s room_1 (OLawQ n0) (T113.setTop (mkF m 198 #[.val (.int q1), .val (.int (1 : Int32)), .val (.int (1 : Int32)), .val (.ref sd), .val (.ref la), .val (.ref lb), .val (.ref lc), .val (.ref ld), .val (.ref la), .val (.ref lc), .val (.int (1 : Int32))] [(.ref lc)]))
    obtain ⟨T114, X114, e114, st114⟩ := own_callVP X113 hx hZ (y := (⟨"com/example/kurslot/kurslot/book/PriceLevel", "worse", "()Lcom/example/kurslot/kurslot/book/PriceLevel;"⟩ : MethodName)) (z := (⟨"com/example/kurslot/kurslot/book/PriceLevel", "worse", "()Lcom/example/kurslot/kurslot/book/PriceLevel;"⟩ : MethodName)) (W := 0) hown (hw _ (List.mem_of_getElem? (i := 40) rfl)) (hw _ (List.mem_of_getElem? (i := 41) rfl)) (notFace_of_selects (args := #[]) (mvT hZ (hw _ (List.mem_of_getElem? (i := 43) rfl)))) (hw _ (List.mem_of_getElem? (i := 43) rfl)) (hw _ (List.mem_of_getElem? (i := 42) rfl)) (hw _ (List.mem_of_getElem? (i := 44) rfl)) (hw _ (List.mem_of_getElem? (i := 5) rfl)) (by decide) (rm5_1 l Z a0 hw lc ld T111.heap F_worse_lc) (by decide) (by decide) E_lc (g := (mkF m 198 #[.val (.int q1), .val (.int (1 : Int32)), .val (.int (1 : Int32)), .val (.ref sd), .val (.ref la), .val (.ref lb), .val (.ref lc), .val (.ref ld), .val (.ref la), .val (.ref lc), .val (.int (1 : Int32))] [(.ref lc)])) rfl (by rw [hml]; rfl) (argsL := []) (rest := []) (lenOf pd_3 rfl) rfl (by show 2 * 0 + _ ≤ _; exact Nat.le_of_eq rfl) (hb hby at_198) rfl e113 (by decide) (by decide)
    refine own_st st114 ?_
    show OGo p e below s room_1 (OLawQ n0) (T114.setTop (mkF m 201 #[.val (.int q1), .val (.int (1 : Int32)), .val (.int (1 : Int32)), .val (.ref sd), .val (.ref la), .val (.ref lb), .val (.ref lc), .val (.ref ld), .val (.ref la), .val (.ref lc), .val (.int (1 : Int32))] [(.ref ld)]))
    refine own_st (fun t k => XS.aload X114.here hx rfl (hb hby at_201) rfl rfl k) ?_
    show OGo p e below s room_1 (OLawQ n0) (T114.setTop (mkF m 203 #[.val (.int q1), .val (.int (1 : Int32)), .val (.int (1 : Int32)), .val (.ref sd), .val (.ref la), .val (.ref lb), .val (.ref lc), .val (.ref ld), .val (.ref la), .val (.ref lc), .val (.int (1 : Int32))] [(.ref ld), (.ref ld)]))
    refine own_st (fun t k => Jvm.RoadKit.acmp (g := (mkF m 203 #[.val (.int q1), .val (.int (1 : Int32)), .val (.int (1 : Int32)), .val (.ref sd), .val (.ref la), .val (.ref lb), .val (.ref lc), .val (.ref ld), .val (.ref la), .val (.ref lc), .val (.int (1 : Int32))] [(.ref ld), (.ref ld)])) X114 hx rfl rfl rfl (pc0 := 203) (pc' := 206) (same := true) rfl (hb hby at_203) rfl (decide_eq_true rfl) (by decide) (by decide) k) ?_
    show OGo p e below s room_1 (OLawQ n0) (T114.setTop (mkF m 206 #[.val (.int q1), .val (.int (1 : Int32)), .val (.int (1 : Int32)), .val (.ref sd), .val (.ref la), .val (.ref lb), .val (.ref lc), .val (.ref ld), .val (.ref la), .val (.ref lc), .val (.int (1 : Int32))] []))
    refine own_st (fun t k => XS.iconst X114.here hx rfl (hb hby at_206) k) ?_
    show OGo p e below s room_1 (OLawQ n0) (T114.setTop (mkF m 207 #[.val (.int q1), .val (.int (1 : Int32)), .val (.int (1 : Int32)), .val (.ref sd), .val (.ref la), .val (.ref lb), .val (.ref lc), .val (.ref ld), .val (.ref la), .val (.ref lc), .val (.int (1 : Int32))] [(.int (1 : Int32))]))
    refine own_st (fun t k => XS.goto X114.here hx rfl (pc0 := 207) (pc' := 211) rfl (hb hby at_207) (by decide) (by decide) k) ?_
    show OGo p e below s room_1 (OLawQ n0) (T114.setTop (mkF m 211 #[.val (.int q1), .val (.int (1 : Int32)), .val (.int (1 : Int32)), .val (.ref sd), .val (.ref la), .val (.ref lb), .val (.ref lc), .val (.ref ld), .val (.ref la), .val (.ref lc), .val (.int (1 : Int32))] [(.int (1 : Int32))]))
    refine own_st (fun t k => XS.istore X114.here hx rfl (hb hby at_211) rfl (l' := #[.val (.int q1), .val (.int (1 : Int32)), .val (.int (1 : Int32)), .val (.ref sd), .val (.ref la), .val (.ref lb), .val (.ref lc), .val (.ref ld), .val (.ref la), .val (.ref lc), .val (.int (1 : Int32))]) rfl k) ?_
    show OGo p e below s room_1 (OLawQ n0) (T114.setTop (mkF m 213 #[.val (.int q1), .val (.int (1 : Int32)), .val (.int (1 : Int32)), .val (.ref sd), .val (.ref la), .val (.ref lb), .val (.ref lc), .val (.ref ld), .val (.ref la), .val (.ref lc), .val (.int (1 : Int32))] []))
    refine own_st (fun t k => XS.aload X114.here hx rfl (hb hby at_213) rfl rfl k) ?_
    show OGo p e below s room_1 (OLawQ n0) (T114.setTop (mkF m 215 #[.val (.int q1), .val (.int (1 : Int32)), .val (.int (1 : Int32)), .val (.ref sd), .val (.ref la), .val (.ref lb), .val (.ref lc), .val (.ref ld), .val (.ref la), .val (.ref lc), .val (.int (1 : Int32))] [(.ref lb)]))
    obtain ⟨_, T115, Lc115, X115, hQ115, st115⟩ := own_callV X114 hx hZ (y := (⟨"com/example/kurslot/kurslot/book/PriceLevel", "unlink", "()V"⟩ : MethodName)) (z := (⟨"com/example/kurslot/kurslot/book/PriceLevel", "unlink", "()V"⟩ : MethodName)) (W := 0) hown (hw _ (List.mem_of_getElem? (i := 35) rfl)) (hw _ (List.mem_of_getElem? (i := 36) rfl)) (notFace_of_selects (args := #[]) (mvT hZ (hw _ (List.mem_of_getElem? (i := 38) rfl)))) (hw _ (List.mem_of_getElem? (i := 38) rfl)) (hw _ (List.mem_of_getElem? (i := 37) rfl)) (hw _ (List.mem_of_getElem? (i := 39) rfl)) (hw _ (List.mem_of_getElem? (i := 5) rfl)) (by decide) (rm4_00 l Z a0 hw lb T111.heap n0 Z0 old_lb E_lb F_better_lb F_worse_lb) (by decide) (by decide) E_lb (g := (mkF m 215 #[.val (.int q1), .val (.int (1 : Int32)), .val (.int (1 : Int32)), .val (.ref sd), .val (.ref la), .val (.ref lb), .val (.ref lc), .val (.ref ld), .val (.ref la), .val (.ref lc), .val (.int (1 : Int32))] [(.ref lb)])) rfl (by rw [hml]; rfl) (argsL := []) (rest := []) (lenOf pd_2 rfl) rfl (by show 2 * 0 + _ ≤ _; exact Nat.le_of_eq rfl) (hb hby at_215) rfl e114 (by decide) (by decide)
    obtain ⟨rfl, Nq115, Kq115, q115_0, q115_1, q115_2⟩ := hQ115
    have Z0 := Nat.le_trans Z0 Kq115.1
    have E_ld := E_ld.keep Kq115
    have F_better_ld := F_better_ld.keep Kq115 (ninS (Ne.symm ne_lb_ld) nin0)
    have F_worse_ld := F_worse_ld.keep Kq115 (ninS (Ne.symm ne_lb_ld) nin0)
    have E_la := E_la.keep Kq115
    have F_better_la := F_better_la.keep Kq115 (ninS ne_la_lb nin0)
    have F_worse_la := F_worse_la.keep Kq115 (ninS ne_la_lb nin0)
    have E_lc := E_lc.keep Kq115
    have F_better_lc := F_better_lc.keep Kq115 (ninS (Ne.symm ne_lb_lc) nin0)
    have F_worse_lc := F_worse_lc.keep Kq115 (ninS (Ne.symm ne_lb_lc) nin0)
    have Nr115 := Fr.app Nr111 Nq115
    have E_lb := q115_0
    have F_better_lb := q115_1
    have F_worse_lb := q115_2
    refine own_st st115 ?_
    show OGo p e below s room_1 (OLawQ n0) (T115.setTop (mkF m 218 #[.val (.int q1), .val (.int (1 : Int32)), .val (.int (1 : Int32)), .val (.ref sd), .val (.ref la), .val (.ref lb), .val (.ref lc), .val (.ref ld), .val (.ref la), .val (.ref lc), .val (.int (1 : Int32))] []))
    refine own_st (fun t k => XS.iload X115.here hx rfl (hb hby at_218) rfl k) ?_
    show OGo p e below s room_1 (OLawQ n0) (T115.setTop (mkF m 220 #[.val (.int q1), .val (.int (1 : Int32)), .val (.int (1 : Int32)), .val (.ref sd), .val (.ref la), .val (.ref lb), .val (.ref lc), .val (.ref ld), .val (.ref la), .val (.ref lc), .val (.int (1 : Int32))] [(.int (1 : Int32))]))
    refine own_st (fun t k => XS.ifNo X115.here hx rfl (hb hby at_220) rfl ((if0 _ _).trans (feq ((by decide : ¬ (1 : Int32) = (0 : Int32)))).1) k) ?_
    show OGo p e below s room_1 (OLawQ n0) (T115.setTop (mkF m 223 #[.val (.int q1), .val (.int (1 : Int32)), .val (.int (1 : Int32)), .val (.ref sd), .val (.ref la), .val (.ref lb), .val (.ref lc), .val (.ref ld), .val (.ref la), .val (.ref lc), .val (.int (1 : Int32))] []))
    refine own_st (fun t k => XS.aload X115.here hx rfl (hb hby at_223) rfl rfl k) ?_
    show OGo p e below s room_1 (OLawQ n0) (T115.setTop (mkF m 225 #[.val (.int q1), .val (.int (1 : Int32)), .val (.int (1 : Int32)), .val (.ref sd), .val (.ref la), .val (.ref lb), .val (.ref lc), .val (.ref ld), .val (.ref la), .val (.ref lc), .val (.int (1 : Int32))] [(.ref lb)]))
    obtain ⟨T116, X116, e116, st116⟩ := own_callVP X115 hx hZ (y := (⟨"com/example/kurslot/kurslot/book/PriceLevel", "worse", "()Lcom/example/kurslot/kurslot/book/PriceLevel;"⟩ : MethodName)) (z := (⟨"com/example/kurslot/kurslot/book/PriceLevel", "worse", "()Lcom/example/kurslot/kurslot/book/PriceLevel;"⟩ : MethodName)) (W := 0) hown (hw _ (List.mem_of_getElem? (i := 40) rfl)) (hw _ (List.mem_of_getElem? (i := 41) rfl)) (notFace_of_selects (args := #[]) (mvT hZ (hw _ (List.mem_of_getElem? (i := 43) rfl)))) (hw _ (List.mem_of_getElem? (i := 43) rfl)) (hw _ (List.mem_of_getElem? (i := 42) rfl)) (hw _ (List.mem_of_getElem? (i := 44) rfl)) (hw _ (List.mem_of_getElem? (i := 5) rfl)) (by decide) (rm5_0 l Z a0 hw lb T115.heap F_worse_lb) (by decide) (by decide) E_lb (g := (mkF m 225 #[.val (.int q1), .val (.int (1 : Int32)), .val (.int (1 : Int32)), .val (.ref sd), .val (.ref la), .val (.ref lb), .val (.ref lc), .val (.ref ld), .val (.ref la), .val (.ref lc), .val (.int (1 : Int32))] [(.ref lb)])) rfl (by rw [hml]; rfl) (argsL := []) (rest := []) (lenOf pd_3 rfl) rfl (by show 2 * 0 + _ ≤ _; exact Nat.le_of_eq rfl) (hb hby at_225) rfl rfl (by decide) (by decide)
    refine own_st st116 ?_
    show OGo p e below s room_1 (OLawQ n0) (T116.setTop (mkF m 228 #[.val (.int q1), .val (.int (1 : Int32)), .val (.int (1 : Int32)), .val (.ref sd), .val (.ref la), .val (.ref lb), .val (.ref lc), .val (.ref ld), .val (.ref la), .val (.ref lc), .val (.int (1 : Int32))] [.null]))
    refine own_st (fun t k => XS.ifnonnullNo X116.here hx rfl (hb hby at_228) rfl k) ?_
    show OGo p e below s room_1 (OLawQ n0) (T116.setTop (mkF m 231 #[.val (.int q1), .val (.int (1 : Int32)), .val (.int (1 : Int32)), .val (.ref sd), .val (.ref la), .val (.ref lb), .val (.ref lc), .val (.ref ld), .val (.ref la), .val (.ref lc), .val (.int (1 : Int32))] []))
    refine own_st (fun t k => XS.iconst X116.here hx rfl (hb hby at_231) k) ?_
    show OGo p e below s room_1 (OLawQ n0) (T116.setTop (mkF m 232 #[.val (.int q1), .val (.int (1 : Int32)), .val (.int (1 : Int32)), .val (.ref sd), .val (.ref la), .val (.ref lb), .val (.ref lc), .val (.ref ld), .val (.ref la), .val (.ref lc), .val (.int (1 : Int32))] [(.int (1 : Int32))]))
    refine own_st (fun t k => XS.goto X116.here hx rfl (pc0 := 232) (pc' := 236) rfl (hb hby at_232) (by decide) (by decide) k) ?_
    show OGo p e below s room_1 (OLawQ n0) (T116.setTop (mkF m 236 #[.val (.int q1), .val (.int (1 : Int32)), .val (.int (1 : Int32)), .val (.ref sd), .val (.ref la), .val (.ref lb), .val (.ref lc), .val (.ref ld), .val (.ref la), .val (.ref lc), .val (.int (1 : Int32))] [(.int (1 : Int32))]))
    refine own_st (fun t k => XS.istore X116.here hx rfl (hb hby at_236) rfl (l' := #[.val (.int q1), .val (.int (1 : Int32)), .val (.int (1 : Int32)), .val (.ref sd), .val (.ref la), .val (.ref lb), .val (.ref lc), .val (.ref ld), .val (.ref la), .val (.ref lc), .val (.int (1 : Int32))]) rfl k) ?_
    show OGo p e below s room_1 (OLawQ n0) (T116.setTop (mkF m 238 #[.val (.int q1), .val (.int (1 : Int32)), .val (.int (1 : Int32)), .val (.ref sd), .val (.ref la), .val (.ref lb), .val (.ref lc), .val (.ref ld), .val (.ref la), .val (.ref lc), .val (.int (1 : Int32))] []))
    refine own_st (fun t k => XS.iloadN X116.here hx rfl (hb hby at_238) rfl k) ?_
    show OGo p e below s room_1 (OLawQ n0) (T116.setTop (mkF m 239 #[.val (.int q1), .val (.int (1 : Int32)), .val (.int (1 : Int32)), .val (.ref sd), .val (.ref la), .val (.ref lb), .val (.ref lc), .val (.ref ld), .val (.ref la), .val (.ref lc), .val (.int (1 : Int32))] [(.int (1 : Int32))]))
    refine own_st (fun t k => XS.ifNo X116.here hx rfl (hb hby at_239) rfl ((if0 _ _).trans (feq ((by decide : ¬ (1 : Int32) = (0 : Int32)))).1) k) ?_
    show OGo p e below s room_1 (OLawQ n0) (T116.setTop (mkF m 242 #[.val (.int q1), .val (.int (1 : Int32)), .val (.int (1 : Int32)), .val (.ref sd), .val (.ref la), .val (.ref lb), .val (.ref lc), .val (.ref ld), .val (.ref la), .val (.ref lc), .val (.int (1 : Int32))] []))
    refine own_st (fun t k => XS.iload X116.here hx rfl (hb hby at_242) rfl k) ?_
    show OGo p e below s room_1 (OLawQ n0) (T116.setTop (mkF m 244 #[.val (.int q1), .val (.int (1 : Int32)), .val (.int (1 : Int32)), .val (.ref sd), .val (.ref la), .val (.ref lb), .val (.ref lc), .val (.ref ld), .val (.ref la), .val (.ref lc), .val (.int (1 : Int32))] [(.int (1 : Int32))]))
    refine own_st (fun t k => XS.ifNo X116.here hx rfl (hb hby at_244) rfl ((if0 _ _).trans (feq ((by decide : ¬ (1 : Int32) = (0 : Int32)))).1) k) ?_
    show OGo p e below s room_1 (OLawQ n0) (T116.setTop (mkF m 247 #[.val (.int q1), .val (.int (1 : Int32)), .val (.int (1 : Int32)), .val (.ref sd), .val (.ref la), .val (.ref lb), .val (.ref lc), .val (.ref ld), .val (.ref la), .val (.ref lc), .val (.int (1 : Int32))] []))
    refine own_st (fun t k => XS.aload X116.here hx rfl (hb hby at_247) rfl rfl k) ?_
    show OGo p e below s room_1 (OLawQ n0) (T116.setTop (mkF m 249 #[.val (.int q1), .val (.int (1 : Int32)), .val (.int (1 : Int32)), .val (.ref sd), .val (.ref la), .val (.ref lb), .val (.ref lc), .val (.ref ld), .val (.ref la), .val (.ref lc), .val (.int (1 : Int32))] [(.ref la)]))
    obtain ⟨T117, X117, e117, st117⟩ := own_callVP X116 hx hZ (y := (⟨"com/example/kurslot/kurslot/book/PriceLevel", "worse", "()Lcom/example/kurslot/kurslot/book/PriceLevel;"⟩ : MethodName)) (z := (⟨"com/example/kurslot/kurslot/book/PriceLevel", "worse", "()Lcom/example/kurslot/kurslot/book/PriceLevel;"⟩ : MethodName)) (W := 0) hown (hw _ (List.mem_of_getElem? (i := 40) rfl)) (hw _ (List.mem_of_getElem? (i := 41) rfl)) (notFace_of_selects (args := #[]) (mvT hZ (hw _ (List.mem_of_getElem? (i := 43) rfl)))) (hw _ (List.mem_of_getElem? (i := 43) rfl)) (hw _ (List.mem_of_getElem? (i := 42) rfl)) (hw _ (List.mem_of_getElem? (i := 44) rfl)) (hw _ (List.mem_of_getElem? (i := 5) rfl)) (by decide) (rm5_1 l Z a0 hw la lc T115.heap F_worse_la) (by decide) (by decide) E_la (g := (mkF m 249 #[.val (.int q1), .val (.int (1 : Int32)), .val (.int (1 : Int32)), .val (.ref sd), .val (.ref la), .val (.ref lb), .val (.ref lc), .val (.ref ld), .val (.ref la), .val (.ref lc), .val (.int (1 : Int32))] [(.ref la)])) rfl (by rw [hml]; rfl) (argsL := []) (rest := []) (lenOf pd_3 rfl) rfl (by show 2 * 0 + _ ≤ _; exact Nat.le_of_eq rfl) (hb hby at_249) rfl e116 (by decide) (by decide)
    refine own_st st117 ?_
    show OGo p e below s room_1 (OLawQ n0) (T117.setTop (mkF m 252 #[.val (.int q1), .val (.int (1 : Int32)), .val (.int (1 : Int32)), .val (.ref sd), .val (.ref la), .val (.ref lb), .val (.ref lc), .val (.ref ld), .val (.ref la), .val (.ref lc), .val (.int (1 : Int32))] [(.ref lc)]))
    refine own_st (fun t k => XS.aload X117.here hx rfl (hb hby at_252) rfl rfl k) ?_
    show OGo p e below s room_1 (OLawQ n0) (T117.setTop (mkF m 254 #[.val (.int q1), .val (.int (1 : Int32)), .val (.int (1 : Int32)), .val (.ref sd), .val (.ref la), .val (.ref lb), .val (.ref lc), .val (.ref ld), .val (.ref la), .val (.ref lc), .val (.int (1 : Int32))] [(.ref lc), (.ref lc)]))
    refine own_st (fun t k => Jvm.RoadKit.acmp (g := (mkF m 254 #[.val (.int q1), .val (.int (1 : Int32)), .val (.int (1 : Int32)), .val (.ref sd), .val (.ref la), .val (.ref lb), .val (.ref lc), .val (.ref ld), .val (.ref la), .val (.ref lc), .val (.int (1 : Int32))] [(.ref lc), (.ref lc)])) X117 hx rfl rfl rfl (pc0 := 254) (pc' := 257) (same := true) rfl (hb hby at_254) rfl (decide_eq_true rfl) (by decide) (by decide) k) ?_
    show OGo p e below s room_1 (OLawQ n0) (T117.setTop (mkF m 257 #[.val (.int q1), .val (.int (1 : Int32)), .val (.int (1 : Int32)), .val (.ref sd), .val (.ref la), .val (.ref lb), .val (.ref lc), .val (.ref ld), .val (.ref la), .val (.ref lc), .val (.int (1 : Int32))] []))
    refine own_st (fun t k => XS.iconst X117.here hx rfl (hb hby at_257) k) ?_
    show OGo p e below s room_1 (OLawQ n0) (T117.setTop (mkF m 258 #[.val (.int q1), .val (.int (1 : Int32)), .val (.int (1 : Int32)), .val (.ref sd), .val (.ref la), .val (.ref lb), .val (.ref lc), .val (.ref ld), .val (.ref la), .val (.ref lc), .val (.int (1 : Int32))] [(.int (1 : Int32))]))
    refine own_st (fun t k => XS.goto X117.here hx rfl (pc0 := 258) (pc' := 262) rfl (hb hby at_258) (by decide) (by decide) k) ?_
    show OGo p e below s room_1 (OLawQ n0) (T117.setTop (mkF m 262 #[.val (.int q1), .val (.int (1 : Int32)), .val (.int (1 : Int32)), .val (.ref sd), .val (.ref la), .val (.ref lb), .val (.ref lc), .val (.ref ld), .val (.ref la), .val (.ref lc), .val (.int (1 : Int32))] [(.int (1 : Int32))]))
    refine own_st (fun t k => XS.istore X117.here hx rfl (hb hby at_262) rfl (l' := #[.val (.int q1), .val (.int (1 : Int32)), .val (.int (1 : Int32)), .val (.ref sd), .val (.ref la), .val (.ref lb), .val (.ref lc), .val (.ref ld), .val (.ref la), .val (.ref lc), .val (.int (1 : Int32))]) rfl k) ?_
    show OGo p e below s room_1 (OLawQ n0) (T117.setTop (mkF m 264 #[.val (.int q1), .val (.int (1 : Int32)), .val (.int (1 : Int32)), .val (.ref sd), .val (.ref la), .val (.ref lb), .val (.ref lc), .val (.ref ld), .val (.ref la), .val (.ref lc), .val (.int (1 : Int32))] []))
    refine own_st (fun t k => XS.iloadN X117.here hx rfl (hb hby at_264) rfl k) ?_
    show OGo p e below s room_1 (OLawQ n0) (T117.setTop (mkF m 265 #[.val (.int q1), .val (.int (1 : Int32)), .val (.int (1 : Int32)), .val (.ref sd), .val (.ref la), .val (.ref lb), .val (.ref lc), .val (.ref ld), .val (.ref la), .val (.ref lc), .val (.int (1 : Int32))] [(.int (1 : Int32))]))
    refine own_st (fun t k => XS.ifNo X117.here hx rfl (hb hby at_265) rfl ((if0 _ _).trans (feq ((by decide : ¬ (1 : Int32) = (0 : Int32)))).1) k) ?_
    show OGo p e below s room_1 (OLawQ n0) (T117.setTop (mkF m 268 #[.val (.int q1), .val (.int (1 : Int32)), .val (.int (1 : Int32)), .val (.ref sd), .val (.ref la), .val (.ref lb), .val (.ref lc), .val (.ref ld), .val (.ref la), .val (.ref lc), .val (.int (1 : Int32))] []))
    refine own_st (fun t k => XS.iload X117.here hx rfl (hb hby at_268) rfl k) ?_
    show OGo p e below s room_1 (OLawQ n0) (T117.setTop (mkF m 270 #[.val (.int q1), .val (.int (1 : Int32)), .val (.int (1 : Int32)), .val (.ref sd), .val (.ref la), .val (.ref lb), .val (.ref lc), .val (.ref ld), .val (.ref la), .val (.ref lc), .val (.int (1 : Int32))] [(.int (1 : Int32))]))
    refine own_st (fun t k => XS.ifNo X117.here hx rfl (hb hby at_270) rfl ((if0 _ _).trans (feq ((by decide : ¬ (1 : Int32) = (0 : Int32)))).1) k) ?_
    show OGo p e below s room_1 (OLawQ n0) (T117.setTop (mkF m 273 #[.val (.int q1), .val (.int (1 : Int32)), .val (.int (1 : Int32)), .val (.ref sd), .val (.ref la), .val (.ref lb), .val (.ref lc), .val (.ref ld), .val (.ref la), .val (.ref lc), .val (.int (1 : Int32))] []))
    refine own_st (fun t k => XS.aload X117.here hx rfl (hb hby at_273) rfl rfl k) ?_
    show OGo p e below s room_1 (OLawQ n0) (T117.setTop (mkF m 275 #[.val (.int q1), .val (.int (1 : Int32)), .val (.int (1 : Int32)), .val (.ref sd), .val (.ref la), .val (.ref lb), .val (.ref lc), .val (.ref ld), .val (.ref la), .val (.ref lc), .val (.int (1 : Int32))] [(.ref lc)]))
    obtain ⟨T118, X118, e118, st118⟩ := own_callVP X117 hx hZ (y := (⟨"com/example/kurslot/kurslot/book/PriceLevel", "worse", "()Lcom/example/kurslot/kurslot/book/PriceLevel;"⟩ : MethodName)) (z := (⟨"com/example/kurslot/kurslot/book/PriceLevel", "worse", "()Lcom/example/kurslot/kurslot/book/PriceLevel;"⟩ : MethodName)) (W := 0) hown (hw _ (List.mem_of_getElem? (i := 40) rfl)) (hw _ (List.mem_of_getElem? (i := 41) rfl)) (notFace_of_selects (args := #[]) (mvT hZ (hw _ (List.mem_of_getElem? (i := 43) rfl)))) (hw _ (List.mem_of_getElem? (i := 43) rfl)) (hw _ (List.mem_of_getElem? (i := 42) rfl)) (hw _ (List.mem_of_getElem? (i := 44) rfl)) (hw _ (List.mem_of_getElem? (i := 5) rfl)) (by decide) (rm5_1 l Z a0 hw lc ld T115.heap F_worse_lc) (by decide) (by decide) E_lc (g := (mkF m 275 #[.val (.int q1), .val (.int (1 : Int32)), .val (.int (1 : Int32)), .val (.ref sd), .val (.ref la), .val (.ref lb), .val (.ref lc), .val (.ref ld), .val (.ref la), .val (.ref lc), .val (.int (1 : Int32))] [(.ref lc)])) rfl (by rw [hml]; rfl) (argsL := []) (rest := []) (lenOf pd_3 rfl) rfl (by show 2 * 0 + _ ≤ _; exact Nat.le_of_eq rfl) (hb hby at_275) rfl e117 (by decide) (by decide)
    refine own_st st118 ?_
    show OGo p e below s room_1 (OLawQ n0) (T118.setTop (mkF m 278 #[.val (.int q1), .val (.int (1 : Int32)), .val (.int (1 : Int32)), .val (.ref sd), .val (.ref la), .val (.ref lb), .val (.ref lc), .val (.ref ld), .val (.ref la), .val (.ref lc), .val (.int (1 : Int32))] [(.ref ld)]))
    refine own_st (fun t k => XS.aload X118.here hx rfl (hb hby at_278) rfl rfl k) ?_
    show OGo p e below s room_1 (OLawQ n0) (T118.setTop (mkF m 280 #[.val (.int q1), .val (.int (1 : Int32)), .val (.int (1 : Int32)), .val (.ref sd), .val (.ref la), .val (.ref lb), .val (.ref lc), .val (.ref ld), .val (.ref la), .val (.ref lc), .val (.int (1 : Int32))] [(.ref ld), (.ref ld)]))
    refine own_st (fun t k => Jvm.RoadKit.acmp (g := (mkF m 280 #[.val (.int q1), .val (.int (1 : Int32)), .val (.int (1 : Int32)), .val (.ref sd), .val (.ref la), .val (.ref lb), .val (.ref lc), .val (.ref ld), .val (.ref la), .val (.ref lc), .val (.int (1 : Int32))] [(.ref ld), (.ref ld)])) X118 hx rfl rfl rfl (pc0 := 280) (pc' := 283) (same := true) rfl (hb hby at_280) rfl (decide_eq_true rfl) (by decide) (by decide) k) ?_
    show OGo p e below s room_1 (OLawQ n0) (T118.setTop (mkF m 283 #[.val (.int q1), .val (.int (1 : Int32)), .val (.int (1 : Int32)), .val (.ref sd), .val (.ref la), .val (.ref lb), .val (.ref lc), .val (.ref ld), .val (.ref la), .val (.ref lc), .val (.int (1 : Int32))] []))
    refine own_st (fun t k => XS.iconst X118.here hx rfl (hb hby at_283) k) ?_
    show OGo p e below s room_1 (OLawQ n0) (T118.setTop (mkF m 284 #[.val (.int q1), .val (.int (1 : Int32)), .val (.int (1 : Int32)), .val (.ref sd), .val (.ref la), .val (.ref lb), .val (.ref lc), .val (.ref ld), .val (.ref la), .val (.ref lc), .val (.int (1 : Int32))] [(.int (1 : Int32))]))
    refine own_st (fun t k => XS.goto X118.here hx rfl (pc0 := 284) (pc' := 288) rfl (hb hby at_284) (by decide) (by decide) k) ?_
    show OGo p e below s room_1 (OLawQ n0) (T118.setTop (mkF m 288 #[.val (.int q1), .val (.int (1 : Int32)), .val (.int (1 : Int32)), .val (.ref sd), .val (.ref la), .val (.ref lb), .val (.ref lc), .val (.ref ld), .val (.ref la), .val (.ref lc), .val (.int (1 : Int32))] [(.int (1 : Int32))]))
    refine own_st (fun t k => XS.istore X118.here hx rfl (hb hby at_288) rfl (l' := #[.val (.int q1), .val (.int (1 : Int32)), .val (.int (1 : Int32)), .val (.ref sd), .val (.ref la), .val (.ref lb), .val (.ref lc), .val (.ref ld), .val (.ref la), .val (.ref lc), .val (.int (1 : Int32))]) rfl k) ?_
    show OGo p e below s room_1 (OLawQ n0) (T118.setTop (mkF m 290 #[.val (.int q1), .val (.int (1 : Int32)), .val (.int (1 : Int32)), .val (.ref sd), .val (.ref la), .val (.ref lb), .val (.ref lc), .val (.ref ld), .val (.ref la), .val (.ref lc), .val (.int (1 : Int32))] []))
    refine own_st (fun t k => XS.aload X118.here hx rfl (hb hby at_290) rfl rfl k) ?_
    show OGo p e below s room_1 (OLawQ n0) (T118.setTop (mkF m 292 #[.val (.int q1), .val (.int (1 : Int32)), .val (.int (1 : Int32)), .val (.ref sd), .val (.ref la), .val (.ref lb), .val (.ref lc), .val (.ref ld), .val (.ref la), .val (.ref lc), .val (.int (1 : Int32))] [(.ref lc)]))
    obtain ⟨_, T119, Lc119, X119, hQ119, st119⟩ := own_callV X118 hx hZ (y := (⟨"com/example/kurslot/kurslot/book/PriceLevel", "unlink", "()V"⟩ : MethodName)) (z := (⟨"com/example/kurslot/kurslot/book/PriceLevel", "unlink", "()V"⟩ : MethodName)) (W := 0) hown (hw _ (List.mem_of_getElem? (i := 35) rfl)) (hw _ (List.mem_of_getElem? (i := 36) rfl)) (notFace_of_selects (args := #[]) (mvT hZ (hw _ (List.mem_of_getElem? (i := 38) rfl)))) (hw _ (List.mem_of_getElem? (i := 38) rfl)) (hw _ (List.mem_of_getElem? (i := 37) rfl)) (hw _ (List.mem_of_getElem? (i := 39) rfl)) (hw _ (List.mem_of_getElem? (i := 5) rfl)) (by decide) (rm4_11 l Z a0 hw lc la ld .null T115.heap n0 Z0 old_lc old_la old_ld (Ne.symm ne_la_lc) ne_lc_ld ne_la_ld E_lc F_better_lc F_worse_lc E_la F_better_la F_worse_la E_ld F_better_ld F_worse_ld) (by decide) (by decide) E_lc (g := (mkF m 292 #[.val (.int q1), .val (.int (1 : Int32)), .val (.int (1 : Int32)), .val (.ref sd), .val (.ref la), .val (.ref lb), .val (.ref lc), .val (.ref ld), .val (.ref la), .val (.ref lc), .val (.int (1 : Int32))] [(.ref lc)])) rfl (by rw [hml]; rfl) (argsL := []) (rest := []) (lenOf pd_2 rfl) rfl (by show 2 * 0 + _ ≤ _; exact Nat.le_of_eq rfl) (hb hby at_292) rfl e118 (by decide) (by decide)
    obtain ⟨rfl, Nq119, Kq119, q119_0, q119_1, q119_2, q119_3, q119_4, q119_5, q119_6, q119_7, q119_8⟩ := hQ119
    have Z0 := Nat.le_trans Z0 Kq119.1
    have E_lb := E_lb.keep Kq119
    have F_better_lb := F_better_lb.keep Kq119 (ninS ne_lb_lc (ninS (Ne.symm ne_la_lb) (ninS ne_lb_ld nin0)))
    have F_worse_lb := F_worse_lb.keep Kq119 (ninS ne_lb_lc (ninS (Ne.symm ne_la_lb) (ninS ne_lb_ld nin0)))
    have Nr119 := Fr.app Nr115 Nq119
    have E_lc := q119_0
    have F_better_lc := q119_1
    have F_worse_lc := q119_2
    have E_la := q119_3
    have F_better_la := q119_4
    have F_worse_la := q119_5
    have E_ld := q119_6
    have F_better_ld := q119_7
    have F_worse_ld := q119_8
    refine own_st st119 ?_
    show OGo p e below s room_1 (OLawQ n0) (T119.setTop (mkF m 295 #[.val (.int q1), .val (.int (1 : Int32)), .val (.int (1 : Int32)), .val (.ref sd), .val (.ref la), .val (.ref lb), .val (.ref lc), .val (.ref ld), .val (.ref la), .val (.ref lc), .val (.int (1 : Int32))] []))
    refine own_st (fun t k => XS.iload X119.here hx rfl (hb hby at_295) rfl k) ?_
    show OGo p e below s room_1 (OLawQ n0) (T119.setTop (mkF m 297 #[.val (.int q1), .val (.int (1 : Int32)), .val (.int (1 : Int32)), .val (.ref sd), .val (.ref la), .val (.ref lb), .val (.ref lc), .val (.ref ld), .val (.ref la), .val (.ref lc), .val (.int (1 : Int32))] [(.int (1 : Int32))]))
    refine own_st (fun t k => XS.ifNo X119.here hx rfl (hb hby at_297) rfl ((if0 _ _).trans (feq ((by decide : ¬ (1 : Int32) = (0 : Int32)))).1) k) ?_
    show OGo p e below s room_1 (OLawQ n0) (T119.setTop (mkF m 300 #[.val (.int q1), .val (.int (1 : Int32)), .val (.int (1 : Int32)), .val (.ref sd), .val (.ref la), .val (.ref lb), .val (.ref lc), .val (.ref ld), .val (.ref la), .val (.ref lc), .val (.int (1 : Int32))] []))
    refine own_st (fun t k => XS.aload X119.here hx rfl (hb hby at_300) rfl rfl k) ?_
    show OGo p e below s room_1 (OLawQ n0) (T119.setTop (mkF m 302 #[.val (.int q1), .val (.int (1 : Int32)), .val (.int (1 : Int32)), .val (.ref sd), .val (.ref la), .val (.ref lb), .val (.ref lc), .val (.ref ld), .val (.ref la), .val (.ref lc), .val (.int (1 : Int32))] [(.ref lb)]))
    obtain ⟨T120, X120, e120, st120⟩ := own_callVP X119 hx hZ (y := (⟨"com/example/kurslot/kurslot/book/PriceLevel", "worse", "()Lcom/example/kurslot/kurslot/book/PriceLevel;"⟩ : MethodName)) (z := (⟨"com/example/kurslot/kurslot/book/PriceLevel", "worse", "()Lcom/example/kurslot/kurslot/book/PriceLevel;"⟩ : MethodName)) (W := 0) hown (hw _ (List.mem_of_getElem? (i := 40) rfl)) (hw _ (List.mem_of_getElem? (i := 41) rfl)) (notFace_of_selects (args := #[]) (mvT hZ (hw _ (List.mem_of_getElem? (i := 43) rfl)))) (hw _ (List.mem_of_getElem? (i := 43) rfl)) (hw _ (List.mem_of_getElem? (i := 42) rfl)) (hw _ (List.mem_of_getElem? (i := 44) rfl)) (hw _ (List.mem_of_getElem? (i := 5) rfl)) (by decide) (rm5_0 l Z a0 hw lb T119.heap F_worse_lb) (by decide) (by decide) E_lb (g := (mkF m 302 #[.val (.int q1), .val (.int (1 : Int32)), .val (.int (1 : Int32)), .val (.ref sd), .val (.ref la), .val (.ref lb), .val (.ref lc), .val (.ref ld), .val (.ref la), .val (.ref lc), .val (.int (1 : Int32))] [(.ref lb)])) rfl (by rw [hml]; rfl) (argsL := []) (rest := []) (lenOf pd_3 rfl) rfl (by show 2 * 0 + _ ≤ _; exact Nat.le_of_eq rfl) (hb hby at_302) rfl rfl (by decide) (by decide)
    refine own_st st120 ?_
    show OGo p e below s room_1 (OLawQ n0) (T120.setTop (mkF m 305 #[.val (.int q1), .val (.int (1 : Int32)), .val (.int (1 : Int32)), .val (.ref sd), .val (.ref la), .val (.ref lb), .val (.ref lc), .val (.ref ld), .val (.ref la), .val (.ref lc), .val (.int (1 : Int32))] [.null]))
    refine own_st (fun t k => XS.ifnonnullNo X120.here hx rfl (hb hby at_305) rfl k) ?_
    show OGo p e below s room_1 (OLawQ n0) (T120.setTop (mkF m 308 #[.val (.int q1), .val (.int (1 : Int32)), .val (.int (1 : Int32)), .val (.ref sd), .val (.ref la), .val (.ref lb), .val (.ref lc), .val (.ref ld), .val (.ref la), .val (.ref lc), .val (.int (1 : Int32))] []))
    refine own_st (fun t k => XS.aload X120.here hx rfl (hb hby at_308) rfl rfl k) ?_
    show OGo p e below s room_1 (OLawQ n0) (T120.setTop (mkF m 310 #[.val (.int q1), .val (.int (1 : Int32)), .val (.int (1 : Int32)), .val (.ref sd), .val (.ref la), .val (.ref lb), .val (.ref lc), .val (.ref ld), .val (.ref la), .val (.ref lc), .val (.int (1 : Int32))] [(.ref lc)]))
    obtain ⟨T121, X121, e121, st121⟩ := own_callVP X120 hx hZ (y := (⟨"com/example/kurslot/kurslot/book/PriceLevel", "worse", "()Lcom/example/kurslot/kurslot/book/PriceLevel;"⟩ : MethodName)) (z := (⟨"com/example/kurslot/kurslot/book/PriceLevel", "worse", "()Lcom/example/kurslot/kurslot/book/PriceLevel;"⟩ : MethodName)) (W := 0) hown (hw _ (List.mem_of_getElem? (i := 40) rfl)) (hw _ (List.mem_of_getElem? (i := 41) rfl)) (notFace_of_selects (args := #[]) (mvT hZ (hw _ (List.mem_of_getElem? (i := 43) rfl)))) (hw _ (List.mem_of_getElem? (i := 43) rfl)) (hw _ (List.mem_of_getElem? (i := 42) rfl)) (hw _ (List.mem_of_getElem? (i := 44) rfl)) (hw _ (List.mem_of_getElem? (i := 5) rfl)) (by decide) (rm5_0 l Z a0 hw lc T119.heap F_worse_lc) (by decide) (by decide) E_lc (g := (mkF m 310 #[.val (.int q1), .val (.int (1 : Int32)), .val (.int (1 : Int32)), .val (.ref sd), .val (.ref la), .val (.ref lb), .val (.ref lc), .val (.ref ld), .val (.ref la), .val (.ref lc), .val (.int (1 : Int32))] [(.ref lc)])) rfl (by rw [hml]; rfl) (argsL := []) (rest := []) (lenOf pd_3 rfl) rfl (by show 2 * 0 + _ ≤ _; exact Nat.le_of_eq rfl) (hb hby at_310) rfl e120 (by decide) (by decide)
    refine own_st st121 ?_
    show OGo p e below s room_1 (OLawQ n0) (T121.setTop (mkF m 313 #[.val (.int q1), .val (.int (1 : Int32)), .val (.int (1 : Int32)), .val (.ref sd), .val (.ref la), .val (.ref lb), .val (.ref lc), .val (.ref ld), .val (.ref la), .val (.ref lc), .val (.int (1 : Int32))] [.null]))
    refine own_st (fun t k => XS.ifnonnullNo X121.here hx rfl (hb hby at_313) rfl k) ?_
    show OGo p e below s room_1 (OLawQ n0) (T121.setTop (mkF m 316 #[.val (.int q1), .val (.int (1 : Int32)), .val (.int (1 : Int32)), .val (.ref sd), .val (.ref la), .val (.ref lb), .val (.ref lc), .val (.ref ld), .val (.ref la), .val (.ref lc), .val (.int (1 : Int32))] []))
    refine own_st (fun t k => XS.aload X121.here hx rfl (hb hby at_316) rfl rfl k) ?_
    show OGo p e below s room_1 (OLawQ n0) (T121.setTop (mkF m 318 #[.val (.int q1), .val (.int (1 : Int32)), .val (.int (1 : Int32)), .val (.ref sd), .val (.ref la), .val (.ref lb), .val (.ref lc), .val (.ref ld), .val (.ref la), .val (.ref lc), .val (.int (1 : Int32))] [(.ref ld)]))
    obtain ⟨T122, X122, e122, st122⟩ := own_callVP X121 hx hZ (y := (⟨"com/example/kurslot/kurslot/book/PriceLevel", "worse", "()Lcom/example/kurslot/kurslot/book/PriceLevel;"⟩ : MethodName)) (z := (⟨"com/example/kurslot/kurslot/book/PriceLevel", "worse", "()Lcom/example/kurslot/kurslot/book/PriceLevel;"⟩ : MethodName)) (W := 0) hown (hw _ (List.mem_of_getElem? (i := 40) rfl)) (hw _ (List.mem_of_getElem? (i := 41) rfl)) (notFace_of_selects (args := #[]) (mvT hZ (hw _ (List.mem_of_getElem? (i := 43) rfl)))) (hw _ (List.mem_of_getElem? (i := 43) rfl)) (hw _ (List.mem_of_getElem? (i := 42) rfl)) (hw _ (List.mem_of_getElem? (i := 44) rfl)) (hw _ (List.mem_of_getElem? (i := 5) rfl)) (by decide) (rm5_0 l Z a0 hw ld T119.heap F_worse_ld) (by decide) (by decide) E_ld (g := (mkF m 318 #[.val (.int q1), .val (.int (1 : Int32)), .val (.int (1 : Int32)), .val (.ref sd), .val (.ref la), .val (.ref lb), .val (.ref lc), .val (.ref ld), .val (.ref la), .val (.ref lc), .val (.int (1 : Int32))] [(.ref ld)])) rfl (by rw [hml]; rfl) (argsL := []) (rest := []) (lenOf pd_3 rfl) rfl (by show 2 * 0 + _ ≤ _; exact Nat.le_of_eq rfl) (hb hby at_318) rfl e121 (by decide) (by decide)
    refine own_st st122 ?_
    show OGo p e below s room_1 (OLawQ n0) (T122.setTop (mkF m 321 #[.val (.int q1), .val (.int (1 : Int32)), .val (.int (1 : Int32)), .val (.ref sd), .val (.ref la), .val (.ref lb), .val (.ref lc), .val (.ref ld), .val (.ref la), .val (.ref lc), .val (.int (1 : Int32))] [.null]))
    refine own_st (fun t k => XS.ifnonnullNo X122.here hx rfl (hb hby at_321) rfl k) ?_
    show OGo p e below s room_1 (OLawQ n0) (T122.setTop (mkF m 324 #[.val (.int q1), .val (.int (1 : Int32)), .val (.int (1 : Int32)), .val (.ref sd), .val (.ref la), .val (.ref lb), .val (.ref lc), .val (.ref ld), .val (.ref la), .val (.ref lc), .val (.int (1 : Int32))] []))
    refine own_st (fun t k => XS.iconst X122.here hx rfl (hb hby at_324) k) ?_
    show OGo p e below s room_1 (OLawQ n0) (T122.setTop (mkF m 325 #[.val (.int q1), .val (.int (1 : Int32)), .val (.int (1 : Int32)), .val (.ref sd), .val (.ref la), .val (.ref lb), .val (.ref lc), .val (.ref ld), .val (.ref la), .val (.ref lc), .val (.int (1 : Int32))] [(.int (1 : Int32))]))
    refine own_st (fun t k => XS.goto X122.here hx rfl (pc0 := 325) (pc' := 329) rfl (hb hby at_325) (by decide) (by decide) k) ?_
    show OGo p e below s room_1 (OLawQ n0) (T122.setTop (mkF m 329 #[.val (.int q1), .val (.int (1 : Int32)), .val (.int (1 : Int32)), .val (.ref sd), .val (.ref la), .val (.ref lb), .val (.ref lc), .val (.ref ld), .val (.ref la), .val (.ref lc), .val (.int (1 : Int32))] [(.int (1 : Int32))]))
    refine own_st (fun t k => XS.istore X122.here hx rfl (hb hby at_329) rfl (l' := #[.val (.int q1), .val (.int (1 : Int32)), .val (.int (1 : Int32)), .val (.ref sd), .val (.ref la), .val (.ref lb), .val (.ref lc), .val (.ref ld), .val (.ref la), .val (.ref lc), .val (.int (1 : Int32))]) rfl k) ?_
    show OGo p e below s room_1 (OLawQ n0) (T122.setTop (mkF m 331 #[.val (.int q1), .val (.int (1 : Int32)), .val (.int (1 : Int32)), .val (.ref sd), .val (.ref la), .val (.ref lb), .val (.ref lc), .val (.ref ld), .val (.ref la), .val (.ref lc), .val (.int (1 : Int32))] []))
    refine own_st (fun t k => XS.iloadN X122.here hx rfl (hb hby at_331) rfl k) ?_
    show OGo p e below s room_1 (OLawQ n0) (T122.setTop (mkF m 332 #[.val (.int q1), .val (.int (1 : Int32)), .val (.int (1 : Int32)), .val (.ref sd), .val (.ref la), .val (.ref lb), .val (.ref lc), .val (.ref ld), .val (.ref la), .val (.ref lc), .val (.int (1 : Int32))] [(.int (1 : Int32))]))
    refine own_st (fun t k => XS.ifNo X122.here hx rfl (hb hby at_332) rfl ((if0 _ _).trans (feq ((by decide : ¬ (1 : Int32) = (0 : Int32)))).1) k) ?_
    show OGo p e below s room_1 (OLawQ n0) (T122.setTop (mkF m 335 #[.val (.int q1), .val (.int (1 : Int32)), .val (.int (1 : Int32)), .val (.ref sd), .val (.ref la), .val (.ref lb), .val (.ref lc), .val (.ref ld), .val (.ref la), .val (.ref lc), .val (.int (1 : Int32))] []))
    refine own_st (fun t k => XS.iload X122.here hx rfl (hb hby at_335) rfl k) ?_
    show OGo p e below s room_1 (OLawQ n0) (T122.setTop (mkF m 337 #[.val (.int q1), .val (.int (1 : Int32)), .val (.int (1 : Int32)), .val (.ref sd), .val (.ref la), .val (.ref lb), .val (.ref lc), .val (.ref ld), .val (.ref la), .val (.ref lc), .val (.int (1 : Int32))] [(.int (1 : Int32))]))
    refine own_st (fun t k => XS.ifNo X122.here hx rfl (hb hby at_337) rfl ((if0 _ _).trans (feq ((by decide : ¬ (1 : Int32) = (0 : Int32)))).1) k) ?_
    show OGo p e below s room_1 (OLawQ n0) (T122.setTop (mkF m 340 #[.val (.int q1), .val (.int (1 : Int32)), .val (.int (1 : Int32)), .val (.ref sd), .val (.ref la), .val (.ref lb), .val (.ref lc), .val (.ref ld), .val (.ref la), .val (.ref lc), .val (.int (1 : Int32))] []))
    refine own_st (fun t k => XS.aload X122.here hx rfl (hb hby at_340) rfl rfl k) ?_
    show OGo p e below s room_1 (OLawQ n0) (T122.setTop (mkF m 342 #[.val (.int q1), .val (.int (1 : Int32)), .val (.int (1 : Int32)), .val (.ref sd), .val (.ref la), .val (.ref lb), .val (.ref lc), .val (.ref ld), .val (.ref la), .val (.ref lc), .val (.int (1 : Int32))] [(.ref la)]))
    obtain ⟨T123, X123, e123, st123⟩ := own_callVP X122 hx hZ (y := (⟨"com/example/kurslot/kurslot/book/PriceLevel", "worse", "()Lcom/example/kurslot/kurslot/book/PriceLevel;"⟩ : MethodName)) (z := (⟨"com/example/kurslot/kurslot/book/PriceLevel", "worse", "()Lcom/example/kurslot/kurslot/book/PriceLevel;"⟩ : MethodName)) (W := 0) hown (hw _ (List.mem_of_getElem? (i := 40) rfl)) (hw _ (List.mem_of_getElem? (i := 41) rfl)) (notFace_of_selects (args := #[]) (mvT hZ (hw _ (List.mem_of_getElem? (i := 43) rfl)))) (hw _ (List.mem_of_getElem? (i := 43) rfl)) (hw _ (List.mem_of_getElem? (i := 42) rfl)) (hw _ (List.mem_of_getElem? (i := 44) rfl)) (hw _ (List.mem_of_getElem? (i := 5) rfl)) (by decide) (rm5_1 l Z a0 hw la ld T119.heap F_worse_la) (by decide) (by decide) E_la (g := (mkF m 342 #[.val (.int q1), .val (.int (1 : Int32)), .val (.int (1 : Int32)), .val (.ref sd), .val (.ref la), .val (.ref lb), .val (.ref lc), .val (.ref ld), .val (.ref la), .val (.ref lc), .val (.int (1 : Int32))] [(.ref la)])) rfl (by rw [hml]; rfl) (argsL := []) (rest := []) (lenOf pd_3 rfl) rfl (by show 2 * 0 + _ ≤ _; exact Nat.le_of_eq rfl) (hb hby at_342) rfl e122 (by decide) (by decide)
    refine own_st st123 ?_
    show OGo p e below s room_1 (OLawQ n0) (T123.setTop (mkF m 345 #[.val (.int q1), .val (.int (1 : Int32)), .val (.int (1 : Int32)), .val (.ref sd), .val (.ref la), .val (.ref lb), .val (.ref lc), .val (.ref ld), .val (.ref la), .val (.ref lc), .val (.int (1 : Int32))] [(.ref ld)]))
    refine own_st (fun t k => XS.aload X123.here hx rfl (hb hby at_345) rfl rfl k) ?_
    show OGo p e below s room_1 (OLawQ n0) (T123.setTop (mkF m 347 #[.val (.int q1), .val (.int (1 : Int32)), .val (.int (1 : Int32)), .val (.ref sd), .val (.ref la), .val (.ref lb), .val (.ref lc), .val (.ref ld), .val (.ref la), .val (.ref lc), .val (.int (1 : Int32))] [(.ref ld), (.ref ld)]))
    refine own_st (fun t k => Jvm.RoadKit.acmp (g := (mkF m 347 #[.val (.int q1), .val (.int (1 : Int32)), .val (.int (1 : Int32)), .val (.ref sd), .val (.ref la), .val (.ref lb), .val (.ref lc), .val (.ref ld), .val (.ref la), .val (.ref lc), .val (.int (1 : Int32))] [(.ref ld), (.ref ld)])) X123 hx rfl rfl rfl (pc0 := 347) (pc' := 350) (same := true) rfl (hb hby at_347) rfl (decide_eq_true rfl) (by decide) (by decide) k) ?_
    show OGo p e below s room_1 (OLawQ n0) (T123.setTop (mkF m 350 #[.val (.int q1), .val (.int (1 : Int32)), .val (.int (1 : Int32)), .val (.ref sd), .val (.ref la), .val (.ref lb), .val (.ref lc), .val (.ref ld), .val (.ref la), .val (.ref lc), .val (.int (1 : Int32))] []))
    refine own_st (fun t k => XS.iconst X123.here hx rfl (hb hby at_350) k) ?_
    show OGo p e below s room_1 (OLawQ n0) (T123.setTop (mkF m 351 #[.val (.int q1), .val (.int (1 : Int32)), .val (.int (1 : Int32)), .val (.ref sd), .val (.ref la), .val (.ref lb), .val (.ref lc), .val (.ref ld), .val (.ref la), .val (.ref lc), .val (.int (1 : Int32))] [(.int (1 : Int32))]))
    refine own_st (fun t k => XS.goto X123.here hx rfl (pc0 := 351) (pc' := 355) rfl (hb hby at_351) (by decide) (by decide) k) ?_
    show OGo p e below s room_1 (OLawQ n0) (T123.setTop (mkF m 355 #[.val (.int q1), .val (.int (1 : Int32)), .val (.int (1 : Int32)), .val (.ref sd), .val (.ref la), .val (.ref lb), .val (.ref lc), .val (.ref ld), .val (.ref la), .val (.ref lc), .val (.int (1 : Int32))] [(.int (1 : Int32))]))
    refine own_st (fun t k => XS.istore X123.here hx rfl (hb hby at_355) rfl (l' := #[.val (.int q1), .val (.int (1 : Int32)), .val (.int (1 : Int32)), .val (.ref sd), .val (.ref la), .val (.ref lb), .val (.ref lc), .val (.ref ld), .val (.ref la), .val (.ref lc), .val (.int (1 : Int32))]) rfl k) ?_
    show OGo p e below s room_1 (OLawQ n0) (T123.setTop (mkF m 357 #[.val (.int q1), .val (.int (1 : Int32)), .val (.int (1 : Int32)), .val (.ref sd), .val (.ref la), .val (.ref lb), .val (.ref lc), .val (.ref ld), .val (.ref la), .val (.ref lc), .val (.int (1 : Int32))] []))
    refine own_st (fun t k => XS.iload X123.here hx rfl (hb hby at_357) rfl k) ?_
    show OGo p e below s room_1 (OLawQ n0) (T123.setTop (mkF m 359 #[.val (.int q1), .val (.int (1 : Int32)), .val (.int (1 : Int32)), .val (.ref sd), .val (.ref la), .val (.ref lb), .val (.ref lc), .val (.ref ld), .val (.ref la), .val (.ref lc), .val (.int (1 : Int32))] [(.int (1 : Int32))]))
    exact own_retN X123 hx hlk (t := .boolean) hret (by simp) (hb hby at_359) (by decide) (by decide) (⟨rfl, Nr119⟩)
  show OGo p e below s room_1 (OLawQ n0) (T0.setTop (mkF m 0 #[.val (.int q1), .unset, .unset, .unset, .unset, .unset, .unset, .unset, .unset, .unset, .unset] []))
  refine own_st (fun t k => XS.iloadN X0.here hx rfl (hb hby at_0) rfl k) ?_
  show OGo p e below s room_1 (OLawQ n0) (T0.setTop (mkF m 1 #[.val (.int q1), .unset, .unset, .unset, .unset, .unset, .unset, .unset, .unset, .unset, .unset] [(.int q1)]))
  refine own_st (fun t k => XS.iconst X0.here hx rfl (hb hby at_1) k) ?_
  show OGo p e below s room_1 (OLawQ n0) (T0.setTop (mkF m 2 #[.val (.int q1), .unset, .unset, .unset, .unset, .unset, .unset, .unset, .unset, .unset, .unset] [(.int (1 : Int32)), (.int q1)]))
  refine own_st (fun t k => XS.iand X0.here hx rfl (hb hby at_2) rfl k) ?_
  show OGo p e below s room_1 (OLawQ n0) (T0.setTop (mkF m 3 #[.val (.int q1), .unset, .unset, .unset, .unset, .unset, .unset, .unset, .unset, .unset, .unset] [(.int (q1 &&& (1 : Int32)))]))
  by_cases hc3 : (q1 &&& (1 : Int32)) = (0 : Int32)
  · refine own_st (fun t k => XS.ifYes X0.here hx rfl (pc0 := 3) (pc' := 10) rfl (hb hby at_3) rfl ((if0 _ _).trans (teq (hc3)).1) (by decide) (by decide) k) ?_
    show OGo p e below s room_1 (OLawQ n0) (T0.setTop (mkF m 10 #[.val (.int q1), .unset, .unset, .unset, .unset, .unset, .unset, .unset, .unset, .unset, .unset] []))
    refine own_st (fun t k => XS.iconst X0.here hx rfl (hb hby at_10) k) ?_
    show OGo p e below s room_1 (OLawQ n0) (T0.setTop (mkF m 11 #[.val (.int q1), .unset, .unset, .unset, .unset, .unset, .unset, .unset, .unset, .unset, .unset] [(.int (0 : Int32))]))
    refine own_st (fun t k => XS.istoreN X0.here hx rfl (hb hby at_11) rfl (l' := #[.val (.int q1), .val (.int (0 : Int32)), .unset, .unset, .unset, .unset, .unset, .unset, .unset, .unset, .unset]) rfl k) ?_
    show OGo p e below s room_1 (OLawQ n0) (T0.setTop (mkF m 12 #[.val (.int q1), .val (.int (0 : Int32)), .unset, .unset, .unset, .unset, .unset, .unset, .unset, .unset, .unset] []))
    refine own_st (fun t k => XS.iloadN X0.here hx rfl (hb hby at_12) rfl k) ?_
    show OGo p e below s room_1 (OLawQ n0) (T0.setTop (mkF m 13 #[.val (.int q1), .val (.int (0 : Int32)), .unset, .unset, .unset, .unset, .unset, .unset, .unset, .unset, .unset] [(.int q1)]))
    refine own_st (fun t k => XS.iconst X0.here hx rfl (hb hby at_13) k) ?_
    show OGo p e below s room_1 (OLawQ n0) (T0.setTop (mkF m 14 #[.val (.int q1), .val (.int (0 : Int32)), .unset, .unset, .unset, .unset, .unset, .unset, .unset, .unset, .unset] [(.int (2 : Int32)), (.int q1)]))
    refine own_st (fun t k => XS.iand X0.here hx rfl (hb hby at_14) rfl k) ?_
    show OGo p e below s room_1 (OLawQ n0) (T0.setTop (mkF m 15 #[.val (.int q1), .val (.int (0 : Int32)), .unset, .unset, .unset, .unset, .unset, .unset, .unset, .unset, .unset] [(.int (q1 &&& (2 : Int32)))]))
    by_cases hc15 : (q1 &&& (2 : Int32)) = (0 : Int32)
    · refine own_st (fun t k => XS.ifYes X0.here hx rfl (pc0 := 15) (pc' := 22) rfl (hb hby at_15) rfl ((if0 _ _).trans (teq (hc15)).1) (by decide) (by decide) k) ?_
      show OGo p e below s room_1 (OLawQ n0) (T0.setTop (mkF m 22 #[.val (.int q1), .val (.int (0 : Int32)), .unset, .unset, .unset, .unset, .unset, .unset, .unset, .unset, .unset] []))
      refine own_st (fun t k => XS.iconst X0.here hx rfl (hb hby at_22) k) ?_
      show OGo p e below s room_1 (OLawQ n0) (T0.setTop (mkF m 23 #[.val (.int q1), .val (.int (0 : Int32)), .unset, .unset, .unset, .unset, .unset, .unset, .unset, .unset, .unset] [(.int (0 : Int32))]))
      refine own_st (fun t k => XS.istoreN X0.here hx rfl (hb hby at_23) rfl (l' := #[.val (.int q1), .val (.int (0 : Int32)), .val (.int (0 : Int32)), .unset, .unset, .unset, .unset, .unset, .unset, .unset, .unset]) rfl k) ?_
      show OGo p e below s room_1 (OLawQ n0) (T0.setTop (mkF m 24 #[.val (.int q1), .val (.int (0 : Int32)), .val (.int (0 : Int32)), .unset, .unset, .unset, .unset, .unset, .unset, .unset, .unset] []))
      refine own_st (fun t k => XS.iloadN X0.here hx rfl (hb hby at_24) rfl k) ?_
      show OGo p e below s room_1 (OLawQ n0) (T0.setTop (mkF m 25 #[.val (.int q1), .val (.int (0 : Int32)), .val (.int (0 : Int32)), .unset, .unset, .unset, .unset, .unset, .unset, .unset, .unset] [(.int q1)]))
      refine own_st (fun t k => XS.iconst X0.here hx rfl (hb hby at_25) k) ?_
      show OGo p e below s room_1 (OLawQ n0) (T0.setTop (mkF m 26 #[.val (.int q1), .val (.int (0 : Int32)), .val (.int (0 : Int32)), .unset, .unset, .unset, .unset, .unset, .unset, .unset, .unset] [(.int (4 : Int32)), (.int q1)]))
      refine own_st (fun t k => XS.iand X0.here hx rfl (hb hby at_26) rfl k) ?_
      show OGo p e below s room_1 (OLawQ n0) (T0.setTop (mkF m 27 #[.val (.int q1), .val (.int (0 : Int32)), .val (.int (0 : Int32)), .unset, .unset, .unset, .unset, .unset, .unset, .unset, .unset] [(.int (q1 &&& (4 : Int32)))]))
      by_cases hc27 : (q1 &&& (4 : Int32)) = (0 : Int32)
      · refine own_st (fun t k => XS.ifYes X0.here hx rfl (pc0 := 27) (pc' := 36) rfl (hb hby at_27) rfl ((if0 _ _).trans (teq (hc27)).1) (by decide) (by decide) k) ?_
        show OGo p e below s room_1 (OLawQ n0) (T0.setTop (mkF m 36 #[.val (.int q1), .val (.int (0 : Int32)), .val (.int (0 : Int32)), .unset, .unset, .unset, .unset, .unset, .unset, .unset, .unset] []))
        obtain ⟨T124, X124, e124, st124⟩ := getS2 X0 hx hZ hown (host := "") (Or.inl (hw _ (List.mem_of_getElem? (i := 0) rfl))) Via.refl e0 S_BUY (g := (mkF m 36 #[.val (.int q1), .val (.int (0 : Int32)), .val (.int (0 : Int32)), .unset, .unset, .unset, .unset, .unset, .unset, .unset, .unset] [])) rfl (hb hby at_36)
        refine own_st st124 ?_
        show OGo p e below s room_1 (OLawQ n0) (T124.setTop (mkF m 39 #[.val (.int q1), .val (.int (0 : Int32)), .val (.int (0 : Int32)), .unset, .unset, .unset, .unset, .unset, .unset, .unset, .unset] [(.ref buy)]))
        exact J00 _ _ X124 e124
      · refine own_st (fun t k => XS.ifNo X0.here hx rfl (hb hby at_27) rfl ((if0 _ _).trans (feq (hc27)).1) k) ?_
        show OGo p e below s room_1 (OLawQ n0) (T0.setTop (mkF m 30 #[.val (.int q1), .val (.int (0 : Int32)), .val (.int (0 : Int32)), .unset, .unset, .unset, .unset, .unset, .unset, .unset, .unset] []))
        obtain ⟨T125, X125, e125, st125⟩ := getS2 X0 hx hZ hown (host := "") (Or.inl (hw _ (List.mem_of_getElem? (i := 45) rfl))) Via.refl e0 S_SELL (g := (mkF m 30 #[.val (.int q1), .val (.int (0 : Int32)), .val (.int (0 : Int32)), .unset, .unset, .unset, .unset, .unset, .unset, .unset, .unset] [])) rfl (hb hby at_30)
        refine own_st st125 ?_
        show OGo p e below s room_1 (OLawQ n0) (T125.setTop (mkF m 33 #[.val (.int q1), .val (.int (0 : Int32)), .val (.int (0 : Int32)), .unset, .unset, .unset, .unset, .unset, .unset, .unset, .unset] [(.ref sell)]))
        refine own_st (fun t k => XS.goto X125.here hx rfl (pc0 := 33) (pc' := 39) rfl (hb hby at_33) (by decide) (by decide) k) ?_
        show OGo p e below s room_1 (OLawQ n0) (T125.setTop (mkF m 39 #[.val (.int q1), .val (.int (0 : Int32)), .val (.int (0 : Int32)), .unset, .unset, .unset, .unset, .unset, .unset, .unset, .unset] [(.ref sell)]))
        exact J00 _ _ X125 e125
    · refine own_st (fun t k => XS.ifNo X0.here hx rfl (hb hby at_15) rfl ((if0 _ _).trans (feq (hc15)).1) k) ?_
      show OGo p e below s room_1 (OLawQ n0) (T0.setTop (mkF m 18 #[.val (.int q1), .val (.int (0 : Int32)), .unset, .unset, .unset, .unset, .unset, .unset, .unset, .unset, .unset] []))
      refine own_st (fun t k => XS.iconst X0.here hx rfl (hb hby at_18) k) ?_
      show OGo p e below s room_1 (OLawQ n0) (T0.setTop (mkF m 19 #[.val (.int q1), .val (.int (0 : Int32)), .unset, .unset, .unset, .unset, .unset, .unset, .unset, .unset, .unset] [(.int (1 : Int32))]))
      refine own_st (fun t k => XS.goto X0.here hx rfl (pc0 := 19) (pc' := 23) rfl (hb hby at_19) (by decide) (by decide) k) ?_
      show OGo p e below s room_1 (OLawQ n0) (T0.setTop (mkF m 23 #[.val (.int q1), .val (.int (0 : Int32)), .unset, .unset, .unset, .unset, .unset, .unset, .unset, .unset, .unset] [(.int (1 : Int32))]))
      refine own_st (fun t k => XS.istoreN X0.here hx rfl (hb hby at_23) rfl (l' := #[.val (.int q1), .val (.int (0 : Int32)), .val (.int (1 : Int32)), .unset, .unset, .unset, .unset, .unset, .unset, .unset, .unset]) rfl k) ?_
      show OGo p e below s room_1 (OLawQ n0) (T0.setTop (mkF m 24 #[.val (.int q1), .val (.int (0 : Int32)), .val (.int (1 : Int32)), .unset, .unset, .unset, .unset, .unset, .unset, .unset, .unset] []))
      refine own_st (fun t k => XS.iloadN X0.here hx rfl (hb hby at_24) rfl k) ?_
      show OGo p e below s room_1 (OLawQ n0) (T0.setTop (mkF m 25 #[.val (.int q1), .val (.int (0 : Int32)), .val (.int (1 : Int32)), .unset, .unset, .unset, .unset, .unset, .unset, .unset, .unset] [(.int q1)]))
      refine own_st (fun t k => XS.iconst X0.here hx rfl (hb hby at_25) k) ?_
      show OGo p e below s room_1 (OLawQ n0) (T0.setTop (mkF m 26 #[.val (.int q1), .val (.int (0 : Int32)), .val (.int (1 : Int32)), .unset, .unset, .unset, .unset, .unset, .unset, .unset, .unset] [(.int (4 : Int32)), (.int q1)]))
      refine own_st (fun t k => XS.iand X0.here hx rfl (hb hby at_26) rfl k) ?_
      show OGo p e below s room_1 (OLawQ n0) (T0.setTop (mkF m 27 #[.val (.int q1), .val (.int (0 : Int32)), .val (.int (1 : Int32)), .unset, .unset, .unset, .unset, .unset, .unset, .unset, .unset] [(.int (q1 &&& (4 : Int32)))]))
      by_cases hc27 : (q1 &&& (4 : Int32)) = (0 : Int32)
      · refine own_st (fun t k => XS.ifYes X0.here hx rfl (pc0 := 27) (pc' := 36) rfl (hb hby at_27) rfl ((if0 _ _).trans (teq (hc27)).1) (by decide) (by decide) k) ?_
        show OGo p e below s room_1 (OLawQ n0) (T0.setTop (mkF m 36 #[.val (.int q1), .val (.int (0 : Int32)), .val (.int (1 : Int32)), .unset, .unset, .unset, .unset, .unset, .unset, .unset, .unset] []))
        obtain ⟨T126, X126, e126, st126⟩ := getS2 X0 hx hZ hown (host := "") (Or.inl (hw _ (List.mem_of_getElem? (i := 0) rfl))) Via.refl e0 S_BUY (g := (mkF m 36 #[.val (.int q1), .val (.int (0 : Int32)), .val (.int (1 : Int32)), .unset, .unset, .unset, .unset, .unset, .unset, .unset, .unset] [])) rfl (hb hby at_36)
        refine own_st st126 ?_
        show OGo p e below s room_1 (OLawQ n0) (T126.setTop (mkF m 39 #[.val (.int q1), .val (.int (0 : Int32)), .val (.int (1 : Int32)), .unset, .unset, .unset, .unset, .unset, .unset, .unset, .unset] [(.ref buy)]))
        exact J01 _ _ X126 e126
      · refine own_st (fun t k => XS.ifNo X0.here hx rfl (hb hby at_27) rfl ((if0 _ _).trans (feq (hc27)).1) k) ?_
        show OGo p e below s room_1 (OLawQ n0) (T0.setTop (mkF m 30 #[.val (.int q1), .val (.int (0 : Int32)), .val (.int (1 : Int32)), .unset, .unset, .unset, .unset, .unset, .unset, .unset, .unset] []))
        obtain ⟨T127, X127, e127, st127⟩ := getS2 X0 hx hZ hown (host := "") (Or.inl (hw _ (List.mem_of_getElem? (i := 45) rfl))) Via.refl e0 S_SELL (g := (mkF m 30 #[.val (.int q1), .val (.int (0 : Int32)), .val (.int (1 : Int32)), .unset, .unset, .unset, .unset, .unset, .unset, .unset, .unset] [])) rfl (hb hby at_30)
        refine own_st st127 ?_
        show OGo p e below s room_1 (OLawQ n0) (T127.setTop (mkF m 33 #[.val (.int q1), .val (.int (0 : Int32)), .val (.int (1 : Int32)), .unset, .unset, .unset, .unset, .unset, .unset, .unset, .unset] [(.ref sell)]))
        refine own_st (fun t k => XS.goto X127.here hx rfl (pc0 := 33) (pc' := 39) rfl (hb hby at_33) (by decide) (by decide) k) ?_
        show OGo p e below s room_1 (OLawQ n0) (T127.setTop (mkF m 39 #[.val (.int q1), .val (.int (0 : Int32)), .val (.int (1 : Int32)), .unset, .unset, .unset, .unset, .unset, .unset, .unset, .unset] [(.ref sell)]))
        exact J01 _ _ X127 e127
  · refine own_st (fun t k => XS.ifNo X0.here hx rfl (hb hby at_3) rfl ((if0 _ _).trans (feq (hc3)).1) k) ?_
    show OGo p e below s room_1 (OLawQ n0) (T0.setTop (mkF m 6 #[.val (.int q1), .unset, .unset, .unset, .unset, .unset, .unset, .unset, .unset, .unset, .unset] []))
    refine own_st (fun t k => XS.iconst X0.here hx rfl (hb hby at_6) k) ?_
    show OGo p e below s room_1 (OLawQ n0) (T0.setTop (mkF m 7 #[.val (.int q1), .unset, .unset, .unset, .unset, .unset, .unset, .unset, .unset, .unset, .unset] [(.int (1 : Int32))]))
    refine own_st (fun t k => XS.goto X0.here hx rfl (pc0 := 7) (pc' := 11) rfl (hb hby at_7) (by decide) (by decide) k) ?_
    show OGo p e below s room_1 (OLawQ n0) (T0.setTop (mkF m 11 #[.val (.int q1), .unset, .unset, .unset, .unset, .unset, .unset, .unset, .unset, .unset, .unset] [(.int (1 : Int32))]))
    refine own_st (fun t k => XS.istoreN X0.here hx rfl (hb hby at_11) rfl (l' := #[.val (.int q1), .val (.int (1 : Int32)), .unset, .unset, .unset, .unset, .unset, .unset, .unset, .unset, .unset]) rfl k) ?_
    show OGo p e below s room_1 (OLawQ n0) (T0.setTop (mkF m 12 #[.val (.int q1), .val (.int (1 : Int32)), .unset, .unset, .unset, .unset, .unset, .unset, .unset, .unset, .unset] []))
    refine own_st (fun t k => XS.iloadN X0.here hx rfl (hb hby at_12) rfl k) ?_
    show OGo p e below s room_1 (OLawQ n0) (T0.setTop (mkF m 13 #[.val (.int q1), .val (.int (1 : Int32)), .unset, .unset, .unset, .unset, .unset, .unset, .unset, .unset, .unset] [(.int q1)]))
    refine own_st (fun t k => XS.iconst X0.here hx rfl (hb hby at_13) k) ?_
    show OGo p e below s room_1 (OLawQ n0) (T0.setTop (mkF m 14 #[.val (.int q1), .val (.int (1 : Int32)), .unset, .unset, .unset, .unset, .unset, .unset, .unset, .unset, .unset] [(.int (2 : Int32)), (.int q1)]))
    refine own_st (fun t k => XS.iand X0.here hx rfl (hb hby at_14) rfl k) ?_
    show OGo p e below s room_1 (OLawQ n0) (T0.setTop (mkF m 15 #[.val (.int q1), .val (.int (1 : Int32)), .unset, .unset, .unset, .unset, .unset, .unset, .unset, .unset, .unset] [(.int (q1 &&& (2 : Int32)))]))
    by_cases hc15 : (q1 &&& (2 : Int32)) = (0 : Int32)
    · refine own_st (fun t k => XS.ifYes X0.here hx rfl (pc0 := 15) (pc' := 22) rfl (hb hby at_15) rfl ((if0 _ _).trans (teq (hc15)).1) (by decide) (by decide) k) ?_
      show OGo p e below s room_1 (OLawQ n0) (T0.setTop (mkF m 22 #[.val (.int q1), .val (.int (1 : Int32)), .unset, .unset, .unset, .unset, .unset, .unset, .unset, .unset, .unset] []))
      refine own_st (fun t k => XS.iconst X0.here hx rfl (hb hby at_22) k) ?_
      show OGo p e below s room_1 (OLawQ n0) (T0.setTop (mkF m 23 #[.val (.int q1), .val (.int (1 : Int32)), .unset, .unset, .unset, .unset, .unset, .unset, .unset, .unset, .unset] [(.int (0 : Int32))]))
      refine own_st (fun t k => XS.istoreN X0.here hx rfl (hb hby at_23) rfl (l' := #[.val (.int q1), .val (.int (1 : Int32)), .val (.int (0 : Int32)), .unset, .unset, .unset, .unset, .unset, .unset, .unset, .unset]) rfl k) ?_
      show OGo p e below s room_1 (OLawQ n0) (T0.setTop (mkF m 24 #[.val (.int q1), .val (.int (1 : Int32)), .val (.int (0 : Int32)), .unset, .unset, .unset, .unset, .unset, .unset, .unset, .unset] []))
      refine own_st (fun t k => XS.iloadN X0.here hx rfl (hb hby at_24) rfl k) ?_
      show OGo p e below s room_1 (OLawQ n0) (T0.setTop (mkF m 25 #[.val (.int q1), .val (.int (1 : Int32)), .val (.int (0 : Int32)), .unset, .unset, .unset, .unset, .unset, .unset, .unset, .unset] [(.int q1)]))
      refine own_st (fun t k => XS.iconst X0.here hx rfl (hb hby at_25) k) ?_
      show OGo p e below s room_1 (OLawQ n0) (T0.setTop (mkF m 26 #[.val (.int q1), .val (.int (1 : Int32)), .val (.int (0 : Int32)), .unset, .unset, .unset, .unset, .unset, .unset, .unset, .unset] [(.int (4 : Int32)), (.int q1)]))
      refine own_st (fun t k => XS.iand X0.here hx rfl (hb hby at_26) rfl k) ?_
      show OGo p e below s room_1 (OLawQ n0) (T0.setTop (mkF m 27 #[.val (.int q1), .val (.int (1 : Int32)), .val (.int (0 : Int32)), .unset, .unset, .unset, .unset, .unset, .unset, .unset, .unset] [(.int (q1 &&& (4 : Int32)))]))
      by_cases hc27 : (q1 &&& (4 : Int32)) = (0 : Int32)
      · refine own_st (fun t k => XS.ifYes X0.here hx rfl (pc0 := 27) (pc' := 36) rfl (hb hby at_27) rfl ((if0 _ _).trans (teq (hc27)).1) (by decide) (by decide) k) ?_
        show OGo p e below s room_1 (OLawQ n0) (T0.setTop (mkF m 36 #[.val (.int q1), .val (.int (1 : Int32)), .val (.int (0 : Int32)), .unset, .unset, .unset, .unset, .unset, .unset, .unset, .unset] []))
        obtain ⟨T128, X128, e128, st128⟩ := getS2 X0 hx hZ hown (host := "") (Or.inl (hw _ (List.mem_of_getElem? (i := 0) rfl))) Via.refl e0 S_BUY (g := (mkF m 36 #[.val (.int q1), .val (.int (1 : Int32)), .val (.int (0 : Int32)), .unset, .unset, .unset, .unset, .unset, .unset, .unset, .unset] [])) rfl (hb hby at_36)
        refine own_st st128 ?_
        show OGo p e below s room_1 (OLawQ n0) (T128.setTop (mkF m 39 #[.val (.int q1), .val (.int (1 : Int32)), .val (.int (0 : Int32)), .unset, .unset, .unset, .unset, .unset, .unset, .unset, .unset] [(.ref buy)]))
        exact J10 _ _ X128 e128
      · refine own_st (fun t k => XS.ifNo X0.here hx rfl (hb hby at_27) rfl ((if0 _ _).trans (feq (hc27)).1) k) ?_
        show OGo p e below s room_1 (OLawQ n0) (T0.setTop (mkF m 30 #[.val (.int q1), .val (.int (1 : Int32)), .val (.int (0 : Int32)), .unset, .unset, .unset, .unset, .unset, .unset, .unset, .unset] []))
        obtain ⟨T129, X129, e129, st129⟩ := getS2 X0 hx hZ hown (host := "") (Or.inl (hw _ (List.mem_of_getElem? (i := 45) rfl))) Via.refl e0 S_SELL (g := (mkF m 30 #[.val (.int q1), .val (.int (1 : Int32)), .val (.int (0 : Int32)), .unset, .unset, .unset, .unset, .unset, .unset, .unset, .unset] [])) rfl (hb hby at_30)
        refine own_st st129 ?_
        show OGo p e below s room_1 (OLawQ n0) (T129.setTop (mkF m 33 #[.val (.int q1), .val (.int (1 : Int32)), .val (.int (0 : Int32)), .unset, .unset, .unset, .unset, .unset, .unset, .unset, .unset] [(.ref sell)]))
        refine own_st (fun t k => XS.goto X129.here hx rfl (pc0 := 33) (pc' := 39) rfl (hb hby at_33) (by decide) (by decide) k) ?_
        show OGo p e below s room_1 (OLawQ n0) (T129.setTop (mkF m 39 #[.val (.int q1), .val (.int (1 : Int32)), .val (.int (0 : Int32)), .unset, .unset, .unset, .unset, .unset, .unset, .unset, .unset] [(.ref sell)]))
        exact J10 _ _ X129 e129
    · refine own_st (fun t k => XS.ifNo X0.here hx rfl (hb hby at_15) rfl ((if0 _ _).trans (feq (hc15)).1) k) ?_
      show OGo p e below s room_1 (OLawQ n0) (T0.setTop (mkF m 18 #[.val (.int q1), .val (.int (1 : Int32)), .unset, .unset, .unset, .unset, .unset, .unset, .unset, .unset, .unset] []))
      refine own_st (fun t k => XS.iconst X0.here hx rfl (hb hby at_18) k) ?_
      show OGo p e below s room_1 (OLawQ n0) (T0.setTop (mkF m 19 #[.val (.int q1), .val (.int (1 : Int32)), .unset, .unset, .unset, .unset, .unset, .unset, .unset, .unset, .unset] [(.int (1 : Int32))]))
      refine own_st (fun t k => XS.goto X0.here hx rfl (pc0 := 19) (pc' := 23) rfl (hb hby at_19) (by decide) (by decide) k) ?_
      show OGo p e below s room_1 (OLawQ n0) (T0.setTop (mkF m 23 #[.val (.int q1), .val (.int (1 : Int32)), .unset, .unset, .unset, .unset, .unset, .unset, .unset, .unset, .unset] [(.int (1 : Int32))]))
      refine own_st (fun t k => XS.istoreN X0.here hx rfl (hb hby at_23) rfl (l' := #[.val (.int q1), .val (.int (1 : Int32)), .val (.int (1 : Int32)), .unset, .unset, .unset, .unset, .unset, .unset, .unset, .unset]) rfl k) ?_
      show OGo p e below s room_1 (OLawQ n0) (T0.setTop (mkF m 24 #[.val (.int q1), .val (.int (1 : Int32)), .val (.int (1 : Int32)), .unset, .unset, .unset, .unset, .unset, .unset, .unset, .unset] []))
      refine own_st (fun t k => XS.iloadN X0.here hx rfl (hb hby at_24) rfl k) ?_
      show OGo p e below s room_1 (OLawQ n0) (T0.setTop (mkF m 25 #[.val (.int q1), .val (.int (1 : Int32)), .val (.int (1 : Int32)), .unset, .unset, .unset, .unset, .unset, .unset, .unset, .unset] [(.int q1)]))
      refine own_st (fun t k => XS.iconst X0.here hx rfl (hb hby at_25) k) ?_
      show OGo p e below s room_1 (OLawQ n0) (T0.setTop (mkF m 26 #[.val (.int q1), .val (.int (1 : Int32)), .val (.int (1 : Int32)), .unset, .unset, .unset, .unset, .unset, .unset, .unset, .unset] [(.int (4 : Int32)), (.int q1)]))
      refine own_st (fun t k => XS.iand X0.here hx rfl (hb hby at_26) rfl k) ?_
      show OGo p e below s room_1 (OLawQ n0) (T0.setTop (mkF m 27 #[.val (.int q1), .val (.int (1 : Int32)), .val (.int (1 : Int32)), .unset, .unset, .unset, .unset, .unset, .unset, .unset, .unset] [(.int (q1 &&& (4 : Int32)))]))
      by_cases hc27 : (q1 &&& (4 : Int32)) = (0 : Int32)
      · refine own_st (fun t k => XS.ifYes X0.here hx rfl (pc0 := 27) (pc' := 36) rfl (hb hby at_27) rfl ((if0 _ _).trans (teq (hc27)).1) (by decide) (by decide) k) ?_
        show OGo p e below s room_1 (OLawQ n0) (T0.setTop (mkF m 36 #[.val (.int q1), .val (.int (1 : Int32)), .val (.int (1 : Int32)), .unset, .unset, .unset, .unset, .unset, .unset, .unset, .unset] []))
        obtain ⟨T130, X130, e130, st130⟩ := getS2 X0 hx hZ hown (host := "") (Or.inl (hw _ (List.mem_of_getElem? (i := 0) rfl))) Via.refl e0 S_BUY (g := (mkF m 36 #[.val (.int q1), .val (.int (1 : Int32)), .val (.int (1 : Int32)), .unset, .unset, .unset, .unset, .unset, .unset, .unset, .unset] [])) rfl (hb hby at_36)
        refine own_st st130 ?_
        show OGo p e below s room_1 (OLawQ n0) (T130.setTop (mkF m 39 #[.val (.int q1), .val (.int (1 : Int32)), .val (.int (1 : Int32)), .unset, .unset, .unset, .unset, .unset, .unset, .unset, .unset] [(.ref buy)]))
        exact J11 _ _ X130 e130
      · refine own_st (fun t k => XS.ifNo X0.here hx rfl (hb hby at_27) rfl ((if0 _ _).trans (feq (hc27)).1) k) ?_
        show OGo p e below s room_1 (OLawQ n0) (T0.setTop (mkF m 30 #[.val (.int q1), .val (.int (1 : Int32)), .val (.int (1 : Int32)), .unset, .unset, .unset, .unset, .unset, .unset, .unset, .unset] []))
        obtain ⟨T131, X131, e131, st131⟩ := getS2 X0 hx hZ hown (host := "") (Or.inl (hw _ (List.mem_of_getElem? (i := 45) rfl))) Via.refl e0 S_SELL (g := (mkF m 30 #[.val (.int q1), .val (.int (1 : Int32)), .val (.int (1 : Int32)), .unset, .unset, .unset, .unset, .unset, .unset, .unset, .unset] [])) rfl (hb hby at_30)
        refine own_st st131 ?_
        show OGo p e below s room_1 (OLawQ n0) (T131.setTop (mkF m 33 #[.val (.int q1), .val (.int (1 : Int32)), .val (.int (1 : Int32)), .unset, .unset, .unset, .unset, .unset, .unset, .unset, .unset] [(.ref sell)]))
        refine own_st (fun t k => XS.goto X131.here hx rfl (pc0 := 33) (pc' := 39) rfl (hb hby at_33) (by decide) (by decide) k) ?_
        show OGo p e below s room_1 (OLawQ n0) (T131.setTop (mkF m 39 #[.val (.int q1), .val (.int (1 : Int32)), .val (.int (1 : Int32)), .unset, .unset, .unset, .unset, .unset, .unset, .unset, .unset] [(.ref sell)]))
        exact J11 _ _ X131 e131
set_option maxRecDepth 65536 in
set_option maxHeartbeats 40000000 in
theorem comes_1 {Post : Tables → Env → Array Value → State → Outcome → State → Prop} (hpost : ∀ tb e args s v u, (limb_1_1.after args s (.returned v) u = true ∧ limb_1_2.after args s (.returned v) u = true ∧ True) → FrameEnd s (.returned v) u (Jvm.fieldLocs frame_1_writes args s ++ Jvm.arrayLocs frame_1_arrays args s ++ Jvm.staticLocs frame_1_statics s) 16 192 → Post tb e args s (.returned v) u) :
    ArmFor flags0 classFile x code maxLocals ret World_1 tables_1 room_1 Calls_1 rest_1 Pre_1 Post := by
  intro l hfl _ _ p e ha hc hk s m args below hf hA hF happ hP
  obtain ⟨hcalls, hrest, hpre⟩ := hP
  obtain ⟨-, -, -, hnamed, -, -, -, hat⟩ := (Spec.applies_iff hf).mp happ
  obtain ⟨hg, hn⟩ := and_e (Cond.before_iff.mp (show (Jvm.Cond.and given_1 narrow_1).before args s = true from hpre))
  obtain ⟨gs1, gs2⟩ := and_e hg
  obtain ⟨w0, rfl⟩ : ∃ w0 : Value, args = #[w0] := by
    have hs : args.size = 1 := by simpa [Cond.value, given_1] using gs1
    obtain ⟨L⟩ := args
    match L, hs with
    | [w0], _ => exact ⟨w0, rfl⟩
  have hw := fun d (hd : d ∈ tables_1) => atoms_spec (ws := Jvm.Cond.code x code maxLocals ret :: tables_1) hat d (List.mem_cons_of_mem _ hd)
  have hfit : Fit s := fun {y c} hc i hi => by
    obtain ⟨ha, rfl⟩ := Array.getElem?_eq_some_iff.mp hc
    have q := List.all_eq_true.mp ((Array.all_eq_true_iff_forall_mem.mp hF) _ (Array.getElem_mem ha)) i (List.mem_range.mpr hi)
    simpa [Array.getElem?_eq_getElem hi] using q
  obtain ⟨i0, ei0⟩ := is_v gs2
  obtain rfl : w0 = (.int i0) := Option.some.inj ei0
  obtain ⟨k1, k2⟩ := and_e hn
  obtain ⟨buy, hbuy⟩ := exa_v k1
  obtain ⟨sell, hsell⟩ := exa_v k2
  obtain ⟨n, o, h1, h2, h3, _, L, rfl, ⟨rfl, N⟩, hq⟩ := rm0 l s _ hw tables_1 i0 buy sell s.heap s.heap.size (Nat.le_refl _) (Sta.start hbuy (Or.inr ⟨(hw _ (List.mem_of_getElem? (i := 1) rfl)), (hw _ (List.mem_of_getElem? (i := 2) rfl))⟩)) (Sta.start hsell (Or.inr ⟨(hw _ (List.mem_of_getElem? (i := 1) rfl)), (hw _ (List.mem_of_getElem? (i := 46) rfl))⟩)) p e ha hc hk s m _ below hf ((Spec.applies_iff_loose hf).mp happ).1 ⟨rfl, State.Warmed39.refl s, rfl⟩ trivial
  refine ⟨n, _, h1, h2, h3, hpost _ _ _ _ _ _ ⟨Cond.after_iff.mpr rfl, Cond.after_iff.mpr (eq_i res_at (Term.int_eval (1)) rfl), trivial⟩ ⟨hq.1, hq.2.1, (hq.2.2.sift fun y hy => Or.inr (N y hy)).mono (by decide) (by decide)⟩⟩
theorem main_1_1 : Claimed_1_1 := comes_1 fun _ _ _ _ _ _ h hF => ⟨h.1, hF⟩
theorem main_1_2 : Claimed_1_2 := comes_1 fun _ _ _ _ _ _ h hF => ⟨h.2.1, hF⟩
end Jvm.Pilot.@@N@@
namespace Jvm.Pilot.@@N@@
open Jvm Jvm.ClassFile Sem Op Lib Jvm.Free Jvm.Stand Jvm.Pilot.@@N@@.Jvm.D
/-! MADE BY PROGRAM (witnessworld.py) out of the Statement's table words and the real class files: 13 classes; the members and pool entries that the words name. The judged class is class 1, her method 1. -/
namespace start1
open Jvm.ClassFile
def u (s : String) : CpInfo := .utf8 (stringToUtf16 s)
/-- a pool by its gaps: so many unusable entries, then the entry; so many at the end -/
def gap : Nat → List CpInfo → List CpInfo
  | 0, r => r
  | n + 1, r => .unusable :: gap n r
def poolList (es : List (Nat × CpInfo)) (last : Nat) : List CpInfo := es.foldr (fun e r => gap e.1 (e.2 :: r)) (gap last [])
def pool (es : List (Nat × CpInfo)) (last : Nat) : Array CpInfo := ⟨poolList es last⟩
def fileOf (pool : Array CpInfo) (this : Nat) (attrs : Array Attribute := #[]) (ms : Array MethodInfo := #[]) (fl : Nat := 33) (sup : Nat := 0) (ifs : Array Nat := #[]) (fds : Array FieldInfo := #[]) : ClassFile where
  minorVersion := 0
  majorVersion := 65
  constantPool := pool
  accessFlags := fl
  thisClass := this
  superClass := sup
  interfaces := ifs
  fields := fds
  methods := ms
  attributes := attrs
def plain (name : String) (sup : Option ClassId) : Class where
  name := name
  kind := .ordinary
  loader := none
  accessFlags := 33
  super := sup
  interfaces := #[]
  cf := none
  fields := #[]
  methods := #[]
  instanceTypes := #[]
  staticTypes := #[]
  resolved := #[]
  callSites := []
  init := .initialized
  statics := none
  mirror := none

def pool0 : Array CpInfo := pool [(5, u "<init>"), (0, u "()V"), (1, .class_ 10), (1, u "java/lang/Object")] 113

def k0c0 : Code := { maxStack := 0, maxLocals := 1, code := object_method_1_code, exceptionTable := #[], attributes := #[] }
def k0m0 : Method := { name := "<init>", desc := "()V", sig := { parameters := [], returnType := none }, accessFlags := 1, code := some k0c0 }
/-- java/lang/Object -/
def k0 : Class := { plain "java/lang/Object" none with
  accessFlags := 33
  interfaces := #[]
  cf := some (fileOf pool0 8 #[] #[{ accessFlags := 1, nameIndex := 5, descriptorIndex := 6, attributes := #[] }] 33 0 #[] #[])
  fields := #[]
  methods := #[k0m0]
  instanceTypes := #[]
  staticTypes := #[]
  resolved := Array.replicate 124 none
  statics := none }

def pool1 : Array CpInfo := pool [(2, .class_ 4), (1, u "java/lang/Object"), (0, u "<init>"), (0, u "()V"), (0, .fieldref 8 9), (0, .class_ 10), (0, .nameAndType 11 12), (0, u "com/example/kurslot/kurslot/book/Side"), (0, u "SELL"), (0, u "Lcom/example/kurslot/kurslot/book/Side;"), (0, .fieldref 8 14), (0, .nameAndType 15 12), (0, u "BUY"), (0, .class_ 17), (0, u "com/example/kurslot/kurslot/book/PriceLevel"), (0, .long 3), (1, .methodref 16 21), (0, .nameAndType 5 22), (0, u "(Lcom/example/kurslot/kurslot/book/OrderBook;Lcom/example/kurslot/kurslot/book/Side;JI)V"), (0, .long 2), (1, .methodref 16 26), (0, .nameAndType 27 28), (0, u "linkBetween"), (0, u "(Lcom/example/kurslot/kurslot/book/PriceLevel;Lcom/example/kurslot/kurslot/book/PriceLevel;)V"), (0, .methodref 16 30), (0, .nameAndType 31 6), (0, u "unlink"), (0, .methodref 16 33), (0, .nameAndType 34 35), (0, u "worse"), (0, u "()Lcom/example/kurslot/kurslot/book/PriceLevel;"), (0, .class_ 37), (0, u "com/example/kurslot/kurslot/book/PriceLevelUnlinkPinLaw"), (2, u "law"), (0, u "(I)Z")] 3

def k1m0 : Method := { name := "<init>", desc := "()V", sig := { parameters := [], returnType := none }, accessFlags := 1, code := none }
def k1c1 : Code := { maxStack := 7, maxLocals := 11, code := code, exceptionTable := #[], attributes := #[] }
def k1m1 : Method := { name := "law", desc := "(I)Z", sig := { parameters := [.int], returnType := some .boolean }, accessFlags := 9, code := some k1c1 }
/-- com/example/kurslot/kurslot/book/PriceLevelUnlinkPinLaw -/
def k1 : Class := { plain "com/example/kurslot/kurslot/book/PriceLevelUnlinkPinLaw" (some 0) with
  accessFlags := 49
  interfaces := #[]
  cf := some (fileOf pool1 36 #[] #[{ accessFlags := 1, nameIndex := 5, descriptorIndex := 6, attributes := #[] }, { accessFlags := 9, nameIndex := 40, descriptorIndex := 41, attributes := #[] }] 49 2 #[] #[])
  fields := #[]
  methods := #[k1m0, k1m1]
  instanceTypes := #[]
  staticTypes := #[]
  resolved := Array.replicate 45 none
  statics := none }

def pool2 : Array CpInfo := pool [(1, .class_ 2), (0, u "java/lang/constant/Constable"), (0, .class_ 4), (0, u "java/lang/Object")] 6

/-- java/lang/constant/Constable -/
def k2 : Class := { plain "java/lang/constant/Constable" (some 0) with
  accessFlags := 1537
  interfaces := #[]
  cf := some (fileOf pool2 1 #[] #[] 1537 3 #[] #[])
  fields := #[]
  methods := #[]
  instanceTypes := #[]
  staticTypes := #[]
  resolved := Array.replicate 11 none
  statics := none }

def pool3 : Array CpInfo := pool [(1, .class_ 2), (0, u "java/lang/Comparable"), (0, .class_ 4), (0, u "java/lang/Object")] 7

/-- java/lang/Comparable -/
def k3 : Class := { plain "java/lang/Comparable" (some 0) with
  accessFlags := 1537
  interfaces := #[]
  cf := some (fileOf pool3 1 #[] #[] 1537 3 #[] #[])
  fields := #[]
  methods := #[]
  instanceTypes := #[]
  staticTypes := #[]
  resolved := Array.replicate 12 none
  statics := none }

def pool4 : Array CpInfo := pool [(1, .class_ 2), (0, u "java/io/Serializable"), (0, .class_ 4), (0, u "java/lang/Object")] 2

/-- java/io/Serializable -/
def k4 : Class := { plain "java/io/Serializable" (some 0) with
  accessFlags := 1537
  interfaces := #[]
  cf := some (fileOf pool4 1 #[] #[] 1537 3 #[] #[])
  fields := #[]
  methods := #[]
  instanceTypes := #[]
  staticTypes := #[]
  resolved := Array.replicate 7 none
  statics := none }

def pool5 : Array CpInfo := pool [(2, .class_ 4), (1, u "java/lang/Enum"), (0, u "name"), (0, u "Ljava/lang/String;"), (2, u "ordinal"), (0, u "I"), (1, .class_ 14), (1, u "java/lang/Object"), (4, u "hash"), (86, .class_ 108), (1, u "java/lang/Enum$EnumDesc"), (2, .class_ 112), (0, u "java/lang/constant/Constable"), (0, .class_ 114), (0, u "java/lang/Comparable"), (0, .class_ 116), (0, u "java/io/Serializable")] 87

/-- java/lang/Enum -/
def k5 : Class := { plain "java/lang/Enum" (some 0) with
  accessFlags := 1057
  interfaces := #[2, 3, 4]
  cf := some (fileOf pool5 2 #[.nestMembers #[106]] #[] 1057 12 #[111, 113, 115] #[{ accessFlags := 18, nameIndex := 5, descriptorIndex := 6, attributes := #[] }, { accessFlags := 18, nameIndex := 9, descriptorIndex := 10, attributes := #[] }, { accessFlags := 2, nameIndex := 19, descriptorIndex := 10, attributes := #[] }])
  fields := #[{ name := "name", type := (.object "java/lang/String"), accessFlags := 18, slot := 0, constantValue := 0 }, { name := "ordinal", type := .int, accessFlags := 18, slot := 1, constantValue := 0 }, { name := "hash", type := .int, accessFlags := 2, slot := 2, constantValue := 0 }]
  methods := #[]
  instanceTypes := #[(.object "java/lang/String"), .int, .int]
  staticTypes := #[]
  resolved := Array.replicate 204 none
  statics := none }

def pool6 : Array CpInfo := pool [(1, .class_ 2), (0, u "com/example/kurslot/kurslot/book/Side"), (2, u "BUY"), (0, u "Lcom/example/kurslot/kurslot/book/Side;"), (2, u "SELL"), (2, u "$VALUES"), (0, u "[Lcom/example/kurslot/kurslot/book/Side;"), (6, .class_ 22), (1, u "java/lang/Enum")] 38

/-- com/example/kurslot/kurslot/book/Side -/
def k6 : Class := { plain "com/example/kurslot/kurslot/book/Side" (some 5) with
  accessFlags := 16433
  interfaces := #[]
  cf := some (fileOf pool6 1 #[] #[] 16433 20 #[] #[{ accessFlags := 16409, nameIndex := 5, descriptorIndex := 6, attributes := #[] }, { accessFlags := 16409, nameIndex := 9, descriptorIndex := 6, attributes := #[] }, { accessFlags := 4122, nameIndex := 12, descriptorIndex := 13, attributes := #[] }])
  fields := #[{ name := "BUY", type := (.object "com/example/kurslot/kurslot/book/Side"), accessFlags := 16409, slot := 0, constantValue := 0 }, { name := "SELL", type := (.object "com/example/kurslot/kurslot/book/Side"), accessFlags := 16409, slot := 1, constantValue := 0 }, { name := "$VALUES", type := (.array (.object "com/example/kurslot/kurslot/book/Side")), accessFlags := 4122, slot := 2, constantValue := 0 }]
  methods := #[]
  instanceTypes := #[(.object "java/lang/String"), .int, .int]
  staticTypes := #[(.object "com/example/kurslot/kurslot/book/Side"), (.object "com/example/kurslot/kurslot/book/Side"), (.array (.object "com/example/kurslot/kurslot/book/Side"))]
  resolved := Array.replicate 61 none
  statics := some 0 }

def pool7 : Array CpInfo := pool [(1, .methodref 2 3), (0, .class_ 4), (0, .nameAndType 5 6), (0, u "java/lang/Object"), (0, u "<init>"), (0, u "()V"), (2, .fieldref 10 11), (0, .class_ 12), (0, .nameAndType 13 14), (0, u "com/example/kurslot/kurslot/book/PriceLevel"), (0, u "first"), (0, u "I"), (0, .fieldref 10 16), (0, .nameAndType 17 14), (0, u "last"), (0, .fieldref 10 19), (0, .nameAndType 20 21), (0, u "book"), (0, u "Lcom/example/kurslot/kurslot/book/OrderBook;"), (0, .fieldref 10 23), (0, .nameAndType 24 25), (0, u "side"), (0, u "Lcom/example/kurslot/kurslot/book/Side;"), (0, .fieldref 10 27), (0, .nameAndType 28 29), (0, u "price"), (0, u "J"), (0, .fieldref 10 31), (0, .nameAndType 32 14), (0, u "number"), (2, u "shownLots"), (0, .fieldref 10 37), (0, .nameAndType 38 39), (0, u "worse"), (0, u "Lcom/example/kurslot/kurslot/book/PriceLevel;"), (0, .fieldref 10 41), (0, .nameAndType 42 39), (0, u "better"), (0, u "(Lcom/example/kurslot/kurslot/book/OrderBook;Lcom/example/kurslot/kurslot/book/Side;JI)V"), (12, u "()Lcom/example/kurslot/kurslot/book/PriceLevel;"), (0, u "linkBetween"), (0, u "(Lcom/example/kurslot/kurslot/book/PriceLevel;Lcom/example/kurslot/kurslot/book/PriceLevel;)V"), (0, u "unlink")] 2

def k7c0 : Code := { maxStack := 3, maxLocals := 6, code := prog_9_method_1_code, exceptionTable := #[], attributes := #[] }
def k7m0 : Method := { name := "<init>", desc := "(Lcom/example/kurslot/kurslot/book/OrderBook;Lcom/example/kurslot/kurslot/book/Side;JI)V", sig := { parameters := [(.object "com/example/kurslot/kurslot/book/OrderBook"), (.object "com/example/kurslot/kurslot/book/Side"), .long, .int], returnType := none }, accessFlags := 0, code := some k7c0 }
def k7c1 : Code := { maxStack := 1, maxLocals := 1, code := prog_9_method_13_code, exceptionTable := #[], attributes := #[] }
def k7m1 : Method := { name := "worse", desc := "()Lcom/example/kurslot/kurslot/book/PriceLevel;", sig := { parameters := [], returnType := some (.object "com/example/kurslot/kurslot/book/PriceLevel") }, accessFlags := 1, code := some k7c1 }
def k7c2 : Code := { maxStack := 2, maxLocals := 3, code := prog_9_method_14_code, exceptionTable := #[], attributes := #[] }
def k7m2 : Method := { name := "linkBetween", desc := "(Lcom/example/kurslot/kurslot/book/PriceLevel;Lcom/example/kurslot/kurslot/book/PriceLevel;)V", sig := { parameters := [(.object "com/example/kurslot/kurslot/book/PriceLevel"), (.object "com/example/kurslot/kurslot/book/PriceLevel")], returnType := none }, accessFlags := 0, code := some k7c2 }
def k7c3 : Code := { maxStack := 2, maxLocals := 1, code := prog_9_method_15_code, exceptionTable := #[], attributes := #[] }
def k7m3 : Method := { name := "unlink", desc := "()V", sig := { parameters := [], returnType := none }, accessFlags := 0, code := some k7c3 }
/-- com/example/kurslot/kurslot/book/PriceLevel -/
def k7 : Class := { plain "com/example/kurslot/kurslot/book/PriceLevel" (some 0) with
  accessFlags := 49
  interfaces := #[]
  cf := some (fileOf pool7 10 #[] #[{ accessFlags := 0, nameIndex := 5, descriptorIndex := 43, attributes := #[] }, { accessFlags := 1, nameIndex := 38, descriptorIndex := 56, attributes := #[] }, { accessFlags := 0, nameIndex := 57, descriptorIndex := 58, attributes := #[] }, { accessFlags := 0, nameIndex := 59, descriptorIndex := 6, attributes := #[] }] 49 2 #[] #[{ accessFlags := 18, nameIndex := 20, descriptorIndex := 21, attributes := #[] }, { accessFlags := 18, nameIndex := 24, descriptorIndex := 25, attributes := #[] }, { accessFlags := 18, nameIndex := 28, descriptorIndex := 29, attributes := #[] }, { accessFlags := 18, nameIndex := 32, descriptorIndex := 14, attributes := #[] }, { accessFlags := 2, nameIndex := 13, descriptorIndex := 14, attributes := #[] }, { accessFlags := 2, nameIndex := 17, descriptorIndex := 14, attributes := #[] }, { accessFlags := 2, nameIndex := 35, descriptorIndex := 29, attributes := #[] }, { accessFlags := 2, nameIndex := 38, descriptorIndex := 39, attributes := #[] }, { accessFlags := 2, nameIndex := 42, descriptorIndex := 39, attributes := #[] }])
  fields := #[{ name := "book", type := (.object "com/example/kurslot/kurslot/book/OrderBook"), accessFlags := 18, slot := 0, constantValue := 0 }, { name := "side", type := (.object "com/example/kurslot/kurslot/book/Side"), accessFlags := 18, slot := 1, constantValue := 0 }, { name := "price", type := .long, accessFlags := 18, slot := 2, constantValue := 0 }, { name := "number", type := .int, accessFlags := 18, slot := 3, constantValue := 0 }, { name := "first", type := .int, accessFlags := 2, slot := 4, constantValue := 0 }, { name := "last", type := .int, accessFlags := 2, slot := 5, constantValue := 0 }, { name := "shownLots", type := .long, accessFlags := 2, slot := 6, constantValue := 0 }, { name := "worse", type := (.object "com/example/kurslot/kurslot/book/PriceLevel"), accessFlags := 2, slot := 7, constantValue := 0 }, { name := "better", type := (.object "com/example/kurslot/kurslot/book/PriceLevel"), accessFlags := 2, slot := 8, constantValue := 0 }]
  methods := #[k7m0, k7m1, k7m2, k7m3]
  instanceTypes := #[(.object "com/example/kurslot/kurslot/book/OrderBook"), (.object "com/example/kurslot/kurslot/book/Side"), .long, .int, .int, .int, .long, (.object "com/example/kurslot/kurslot/book/PriceLevel"), (.object "com/example/kurslot/kurslot/book/PriceLevel")]
  staticTypes := #[]
  resolved := Array.replicate 62 none
  statics := none }

def pool8 : Array CpInfo := pool [(1, u "java/lang/Cloneable"), (0, .class_ 1), (0, u "java/lang/Object"), (0, .class_ 3)] 3

/-- java/lang/Cloneable -/
def k8 : Class := { plain "java/lang/Cloneable" (some 0) with
  accessFlags := 1537
  interfaces := #[]
  cf := some (fileOf pool8 2 #[] #[] 1537 4 #[] #[])
  fields := #[]
  methods := #[]
  instanceTypes := #[]
  staticTypes := #[]
  resolved := Array.replicate 8 none
  statics := none }

/-- the primitive byte -/
def k9 : Class := { plain "byte" none with kind := .primitive 'B', accessFlags := 0x411 }
/-- [B -/
def k10 : Class := { plain "[B" (some 0) with kind := .array 9 .byte, interfaces := #[8, 4], accessFlags := 1041 }

/-- the primitive int -/
def k11 : Class := { plain "int" none with kind := .primitive 'I', accessFlags := 0x411 }
/-- [I -/
def k12 : Class := { plain "[I" (some 0) with kind := .array 11 .int, interfaces := #[8, 4], accessFlags := 1041 }

def heap : Heap := #[{ cls := 6, slots := #[.ref 1, .ref 2, .null], vm := .statics 6 },
  { cls := 6, slots := #[.null, .int 0, .int 0], vm := .none },
  { cls := 6, slots := #[.null, .int 1, .int 0], vm := .none }]
def classes : Array Class := #[k0, k1, k2, k3, k4, k5, k6, k7, k8, k9, k10, k11, k12]
def interned : List (Array UInt16 × Addr) := []
def slotsUsed : Nat := 9
def theMethod : MethodId := ⟨1, 1⟩
def args0 : Array Value := #[.int 7]
def aboutOver (below : List Frame) : State where
  vm := { classes := classes, interned := interned.toArray }
  heap := heap
  slotsUsed := slotsUsed
  threads := #[{ frames := .invoking theMethod args0 :: below }]
def below0 : List Frame := [.native { method := ⟨0, 0⟩, args := #[] }]
def about1 : State := aboutOver below0
def p0 : Program := .bare "" "" ""
def e0 : Env := launch0.env 0 0 0
theorem w_frames : about1.frames = Frame.invoking theMethod args0 :: below0 := rfl
set_option maxRecDepth 65536 in
theorem w_args : argsFit about1.vm theMethod args0 = true := by decide +kernel
set_option maxRecDepth 65536 in
theorem w_heap : heapFits about1 = true := by decide +kernel
set_option maxRecDepth 65536 in
theorem w_runnable : about1.curStatus? = some .runnable := by decide +kernel
set_option maxRecDepth 65536 in
theorem w_alone : about1.alone = true := by decide +kernel
set_option maxRecDepth 65536 in
theorem w_named : about1.methodNamed? x = some theMethod := by decide +kernel
set_option maxRecDepth 65536 in
theorem w_hears : about1.hears theMethod below0 = true := by decide +kernel
set_option maxRecDepth 65536 in
theorem w_ripe : about1.ripe theMethod args0 below0 = true := by decide +kernel
theorem w_running : about1.status = .running := rfl
set_option maxRecDepth 65536 in
theorem w_room : about1.hasRoom e0.platform room_1 = true :=
  launch0.hasRoom_least _ room_1 (by decide +kernel) (by decide +kernel) (by decide +kernel) (by decide +kernel) (by decide +kernel) (by decide +kernel)
theorem allAtoms_all (ts : List Jvm.Cond) (a : Array Jvm.Value) (st : Jvm.State) : (allAtoms ts).before a st = ts.all (fun c => c.before a st) := by
  induction ts with
  | nil => rfl
  | cons c t ih =>
    show (Jvm.Cond.and c (allAtoms t)).before a st = _
    rw [Jvm.Cond.before_and, ih, List.all_cons]
def words1 : List Jvm.Cond := Jvm.Cond.code x code maxLocals ret :: tables_1
/-- a 'code' word, met by the world's own term for the bytes: nothing is compared byte by byte -/
theorem code_word {y : MethodName} {bytes : ByteArray} {mx : Nat} {rt : Option FieldType} {a : Array Value} {s : State} {m : MethodId} {meth : Method} {c : Code} (h1 : s.methodNamed? y = some m) (h2 : s.vm.method? m = some meth) (h3 : meth.code = some c) (h4 : c.code = bytes)
    (h5 : (c.maxLocals == mx && c.exceptionTable.isEmpty && decide (c.maxStack ≤ mostOperands) && decide (meth.sig.returnType = rt) && !meth.locks && decide (parseMethodDescriptor y.desc = some meth.sig)) = true) : (Jvm.Cond.code y bytes mx rt).before a s = true := by
  simp only [Bool.and_eq_true, beq_iff_eq, Bool.not_eq_true', decide_eq_true_eq] at h5
  obtain ⟨⟨⟨⟨⟨g1, g2⟩, g3⟩, g4⟩, g5⟩, g6⟩ := h5
  simp [Cond.before, Cond.holds, Cond.value, h1, h2, h3, h4, g1, g2, g3, g4, g5, g6]
def isCode : Jvm.Cond → Bool
  | .code _ _ _ _ => true
  | _ => false
theorem all_split {L : List Jvm.Cond} {P : Jvm.Cond → Bool} (h1 : L.all (fun c => isCode c || P c) = true) (h2 : ∀ c ∈ L.filter isCode, P c = true) : L.all P = true := by
  refine List.all_eq_true.mpr fun c hc => ?_
  have h := List.all_eq_true.mp h1 c hc
  rcases Bool.eq_false_or_eq_true (isCode c) with hi | hi
  · exact h2 c (List.mem_filter.mpr ⟨hc, hi⟩)
  · simpa [hi] using h
set_option maxRecDepth 65536 in
theorem w_c0 : (Jvm.Cond.code x code maxLocals ret).before args0 about1 = true := code_word (m := ⟨1, 1⟩) (meth := k1m1) (c := k1c1) (by decide +kernel) rfl rfl rfl (by decide +kernel)
set_option maxRecDepth 65536 in
theorem w_c1 : (Jvm.Cond.code ({ cls := "com/example/kurslot/kurslot/book/PriceLevel", name := "<init>", desc := "(Lcom/example/kurslot/kurslot/book/OrderBook;Lcom/example/kurslot/kurslot/book/Side;JI)V" } : Jvm.MethodName) prog_9_method_1_code (6 : Nat) (Option.none : Option Jvm.ClassFile.FieldType)).before args0 about1 = true := code_word (m := ⟨7, 0⟩) (meth := k7m0) (c := k7c0) (by decide +kernel) rfl rfl rfl (by decide +kernel)
set_option maxRecDepth 65536 in
theorem w_c2 : (Jvm.Cond.code ({ cls := "java/lang/Object", name := "<init>", desc := "()V" } : Jvm.MethodName) object_method_1_code (1 : Nat) (Option.none : Option Jvm.ClassFile.FieldType)).before args0 about1 = true := code_word (m := ⟨0, 0⟩) (meth := k0m0) (c := k0c0) (by decide +kernel) rfl rfl rfl (by decide +kernel)
set_option maxRecDepth 65536 in
theorem w_c3 : (Jvm.Cond.code ({ cls := "com/example/kurslot/kurslot/book/PriceLevel", name := "linkBetween", desc := "(Lcom/example/kurslot/kurslot/book/PriceLevel;Lcom/example/kurslot/kurslot/book/PriceLevel;)V" } : Jvm.MethodName) prog_9_method_14_code (3 : Nat) (Option.none : Option Jvm.ClassFile.FieldType)).before args0 about1 = true := code_word (m := ⟨7, 2⟩) (meth := k7m2) (c := k7c2) (by decide +kernel) rfl rfl rfl (by decide +kernel)
set_option maxRecDepth 65536 in
theorem w_c4 : (Jvm.Cond.code ({ cls := "com/example/kurslot/kurslot/book/PriceLevel", name := "unlink", desc := "()V" } : Jvm.MethodName) prog_9_method_15_code (1 : Nat) (Option.none : Option Jvm.ClassFile.FieldType)).before args0 about1 = true := code_word (m := ⟨7, 3⟩) (meth := k7m3) (c := k7c3) (by decide +kernel) rfl rfl rfl (by decide +kernel)
set_option maxRecDepth 65536 in
theorem w_c5 : (Jvm.Cond.code ({ cls := "com/example/kurslot/kurslot/book/PriceLevel", name := "worse", desc := "()Lcom/example/kurslot/kurslot/book/PriceLevel;" } : Jvm.MethodName) prog_9_method_13_code (1 : Nat) (Option.some (Jvm.ClassFile.FieldType.object "com/example/kurslot/kurslot/book/PriceLevel"))).before args0 about1 = true := code_word (m := ⟨7, 1⟩) (meth := k7m1) (c := k7c1) (by decide +kernel) rfl rfl rfl (by decide +kernel)
def codes1 : List Jvm.Cond := [Jvm.Cond.code x code maxLocals ret, Jvm.Cond.code ({ cls := "com/example/kurslot/kurslot/book/PriceLevel", name := "<init>", desc := "(Lcom/example/kurslot/kurslot/book/OrderBook;Lcom/example/kurslot/kurslot/book/Side;JI)V" } : Jvm.MethodName) prog_9_method_1_code (6 : Nat) (Option.none : Option Jvm.ClassFile.FieldType), Jvm.Cond.code ({ cls := "java/lang/Object", name := "<init>", desc := "()V" } : Jvm.MethodName) object_method_1_code (1 : Nat) (Option.none : Option Jvm.ClassFile.FieldType), Jvm.Cond.code ({ cls := "com/example/kurslot/kurslot/book/PriceLevel", name := "linkBetween", desc := "(Lcom/example/kurslot/kurslot/book/PriceLevel;Lcom/example/kurslot/kurslot/book/PriceLevel;)V" } : Jvm.MethodName) prog_9_method_14_code (3 : Nat) (Option.none : Option Jvm.ClassFile.FieldType), Jvm.Cond.code ({ cls := "com/example/kurslot/kurslot/book/PriceLevel", name := "unlink", desc := "()V" } : Jvm.MethodName) prog_9_method_15_code (1 : Nat) (Option.none : Option Jvm.ClassFile.FieldType), Jvm.Cond.code ({ cls := "com/example/kurslot/kurslot/book/PriceLevel", name := "worse", desc := "()Lcom/example/kurslot/kurslot/book/PriceLevel;" } : Jvm.MethodName) prog_9_method_13_code (1 : Nat) (Option.some (Jvm.ClassFile.FieldType.object "com/example/kurslot/kurslot/book/PriceLevel"))]
set_option maxRecDepth 65536 in
theorem codes_eq : words1.filter isCode = codes1 := rfl
theorem w_codes : ∀ c ∈ words1.filter isCode, c.before args0 about1 = true := by
  rw [codes_eq]
  intro c hc
  simp only [codes1, List.mem_cons, List.not_mem_nil, or_false] at hc
  rcases hc with rfl | rfl | rfl | rfl | rfl | rfl
  · exact w_c0
  · exact w_c1
  · exact w_c2
  · exact w_c3
  · exact w_c4
  · exact w_c5
set_option maxRecDepth 65536 in
theorem w_t1 : (words1.take 24).all (fun c => isCode c || c.before args0 about1) = true := by decide +kernel
set_option maxRecDepth 65536 in
theorem w_t2 : (words1.drop 24).all (fun c => isCode c || c.before args0 about1) = true := by decide +kernel
theorem w_tables : (allAtoms (Jvm.Cond.code x code maxLocals ret :: tables_1)).before args0 about1 = true := by
  rw [allAtoms_all]
  show words1.all (fun c => c.before args0 about1) = true
  refine all_split ?_ w_codes
  rw [← List.take_append_drop 24 words1, List.all_append, w_t1, w_t2]
  rfl
set_option maxRecDepth 65536 in
theorem w_case : (Jvm.Cond.and given_1 narrow_1).before args0 about1 = true := by decide +kernel
theorem w_applies : (headSpec (Jvm.Cond.code x code maxLocals ret :: tables_1) room_1).applies x e0.platform about1 = true :=
  (Spec.applies_iff w_frames).mpr ⟨w_running, w_runnable, w_alone, w_named, w_hears, w_ripe, w_room, w_tables⟩
theorem atStart : AtStart classFile x code maxLocals ret World_1 tables_1 room_1 Calls_1 rest_1 Pre_1 launch0 p0 e0 about1 theMethod args0 below0 :=
  ⟨lists_1, trivial, launch0.admits_env _ _ _, launch0.least_env, fairChoices_fair.cas, fairChoices_fair.clock, w_frames, w_args, w_heap, w_applies, trivial, trivial, w_case⟩
end start1
theorem witness_1 : WitnessClaimed_1 := ⟨start1.p0, start1.e0, start1.about1, start1.theMethod, start1.args0, start1.below0, start1.atStart⟩
end Jvm.Pilot.@@N@@
