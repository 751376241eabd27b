import JvmDerived
import JvmDerived.Pilot.@@N@@Statement
import JvmDerived.Pilot.@@N@@Code
set_option linter.unusedVariables false
set_option linter.unusedSimpArgs false
namespace Jvm.Pilot.@@N@@
open Jvm Jvm.ClassFile Sem Op Lib Jvm.Free Jvm.Stand Jvm.LawKit Jvm.RoadKit Bundle Jvm.Pilot.@@N@@.Jvm.D
section OwnKit
variable {p : Program} {l : Launch} {e : Env} {R : Room} {s : State} {m : MethodId} {args : Array Value} {below : List Frame} {meth : Method} {c : Code} {T : State} {locs : List Loc} {cells slots : Nat} {Z : State} {a0 : Array Value} {h : Heap}
/-- from U the invocation ends, returns v, and Q holds of v, the heap and the written places -/
def OGo (p : Program) (e : Env) (below : List Frame) (s : State) (R : Room) (Q : Option Value → Heap → List Loc → Prop) (U : State) : Prop :=
  ∃ s₂ o, Steps p.tables e below U s₂ ∧ s₂.status = .running ∧ Ended s₂ below o ∧ ∃ v L, o = .returned v ∧ Q v s₂.heap L ∧ FrameEnd s o s₂ L R.cells R.slots
variable {Q : Option Value → Heap → List Loc → Prop}
theorem own_st {A B : State} (hs : ∀ t, Steps p.tables e below A t → Steps p.tables e below B t) (k : OGo p e below s R Q A) : OGo p e below s R Q B := by
  obtain ⟨t, o, h1, h2⟩ := k
  exact ⟨t, o, hs t h1, h2⟩
theorem own_ret {v : Option Value} {U : State} (X : Stand p l e R s m args below meth c T locs cells slots) (hlk : meth.locks = false) (hv : meth.sig.returnType = none → v = none) (hc : cells ≤ R.cells) (hs : slots ≤ R.slots) (hq : Q v T.heap locs)
    (st : ∀ fs, (∀ (f : JFrame) (acts : List Action), f.method = m → f.locked = none → f.entered = [] → (doReturn e (T.setTop f) acts v).1 = T.setFrames fs) → Steps p.tables e below U (T.setFrames fs)) : OGo p e below s R Q U := by
  obtain ⟨fs, hr, hrun, hended, hW, hsame⟩ := X.leave (v := v) hv hlk
  exact ⟨_, _, st fs hr, hrun, hended, v, locs, rfl, hq, ⟨_, rfl⟩, hW, hsame.mono hc hs⟩
theorem own_retV (X : Stand p l e R s m args below meth c T locs cells slots) (hx : p.tables.exec = Jvm.exec) (hlk : meth.locks = false) {pc : Nat} {Ls : Array Slot} (hret : meth.sig.returnType = none) (hd : decode c.code pc = .ok (.return_, 1)) (hc : cells ≤ R.cells) (hs : slots ≤ R.slots) (hq : Q none T.heap locs) :
    OGo p e below s R Q (T.setTop (mkF m pc Ls [])) :=
  own_ret X hlk (fun _ => rfl) hc hs hq fun fs hr => X.returnOut hx hret hd hr
theorem own_retN (X : Stand p l e R s m args below meth c T locs cells slots) (hx : p.tables.exec = Jvm.exec) (hlk : meth.locks = false) {pc : Nat} {Ls : Array Slot} {z : Int32} {t : FieldType} {rest : List Value} (hret : meth.sig.returnType = some t) (ht : t = .boolean ∨ t = .byte ∨ t = .char ∨ t = .short)
    (hd : decode c.code pc = .ok (.ireturn, 1)) (hc : cells ≤ R.cells) (hs : slots ≤ R.slots) (hq : Q (some (.int (nar t z))) T.heap locs) : OGo p e below s R Q (T.setTop (mkF m pc Ls (.int z :: rest))) :=
  own_ret X hlk (fun q => by rw [hret] at q; cases q) hc hs hq fun fs hr => retN X hx hret ht hd hr
theorem own_retI (X : Stand p l e R s m args below meth c T locs cells slots) (hx : p.tables.exec = Jvm.exec) (hlk : meth.locks = false) {pc : Nat} {Ls : Array Slot} {z : Int32} {rest : List Value} (hret : meth.sig.returnType = some .int)
    (hd : decode c.code pc = .ok (.ireturn, 1)) (hc : cells ≤ R.cells) (hs : slots ≤ R.slots) (hq : Q (some (.int z)) T.heap locs) : OGo p e below s R Q (T.setTop (mkF m pc Ls (.int z :: rest))) :=
  own_ret X hlk (fun q => by rw [hret] at q; cases q) hc hs hq fun fs hr => by
    have hm' : T.vm.method? m = some meth := X.method'
    have hn : narrow .int (.int z) = .int z := rfl
    show Steps p.tables e below (T.setTop { method := m, pc := pc, locals := Ls, stack := _ :: rest, locked := none }) _
    jvm_step X.here [X.here.top, hx, hd, hm', hret, hn]
    first | (intro acts; rw [hr _ acts rfl rfl rfl]) | rw [hr _ _ rfl rfl rfl]
    exact Steps.refl _
theorem own_retJ (X : Stand p l e R s m args below meth c T locs cells slots) (hx : p.tables.exec = Jvm.exec) (hlk : meth.locks = false) {pc : Nat} {Ls : Array Slot} {z : Int64} {rest : List Value} (hret : meth.sig.returnType = some .long)
    (hd : decode c.code pc = .ok (.lreturn, 1)) (hc : cells ≤ R.cells) (hs : slots ≤ R.slots) (hq : Q (some (.long z)) T.heap locs) : OGo p e below s R Q (T.setTop (mkF m pc Ls (.long z :: rest))) :=
  own_ret X hlk (fun q => by rw [hret] at q; cases q) hc hs hq fun fs hr => by
    show Steps p.tables e below (T.setTop { method := m, pc := pc, locals := Ls, stack := _ :: rest, locked := none }) _
    jvm_step X.here [X.here.top, hx, hd, X.method', hret, narrow]
    first | (intro acts; rw [hr _ acts rfl rfl rfl]) | rw [hr _ _ rfl rfl rfl]
    exact Steps.refl _
theorem own_retA (X : Stand p l e R s m args below meth c T locs cells slots) (hx : p.tables.exec = Jvm.exec) (hlk : meth.locks = false) {pc : Nat} {Ls : Array Slot} {z : Value} {rest : List Value} {t : FieldType} (hret : meth.sig.returnType = some t) (hz : z.isRef = true) (ht : t.isReference = true)
    (hd : decode c.code pc = .ok (.areturn, 1)) (hc : cells ≤ R.cells) (hs : slots ≤ R.slots) (hq : Q (some z) T.heap locs) : OGo p e below s R Q (T.setTop (mkF m pc Ls (z :: rest))) :=
  own_ret X hlk (fun q => by rw [hret] at q; cases q) hc hs hq fun fs hr => by
    show Steps p.tables e below (T.setTop { method := m, pc := pc, locals := Ls, stack := _ :: rest, locked := none }) _
    jvm_step X.here [X.here.top, hx, hd, X.method', hret, hz, ht]
    first | (intro acts; rw [hr _ acts rfl rfl rfl]) | rw [hr _ _ rfl rfl rfl]
    exact Steps.refl _
/-- the contract of a body at the arguments 'as' and the heap h0 -/
abbrev OMet (l : Launch) (Z : State) (y : MethodName) (bytes : ByteArray) (ml : Nat) (rt : Option FieldType) (ws : List Jvm.Cond) (R : Room) (as : Array Value) (h0 : Heap) (Q : Option Value → Heap → List Loc → Prop) : Prop :=
  MetFree l y (head1 (Jvm.Cond.code y bytes ml rt :: ws) R) (fun a U => a = as ∧ Z.Warmed39 U.vm ∧ U.heap = h0) (fun _ _ _ _ _ => True) (fun _ U o U' => ∃ v L, o = .returned v ∧ Q v U'.heap L ∧ FrameEnd U o U' L R.cells R.slots)
/-- .. of one that returns v and leaves everything -/
abbrev OPure (l : Launch) (Z : State) (y : MethodName) (bytes : ByteArray) (ml : Nat) (rt : Option FieldType) (ws : List Jvm.Cond) (R : Room) (as : Array Value) (h0 : Heap) (v : Option Value) : Prop :=
  OMet l Z y bytes ml rt ws R as h0 (fun v' h' L => v' = v ∧ L = [] ∧ h' = h0)
theorem own_body {y : MethodName} {bytes : ByteArray} {ml : Nat} {rt : Option FieldType} {ws : List Jvm.Cond} {as : Array Value} {h0 : Heap} {L0 : Array Slot} (hp : plainFor y = true) (ef : ∀ m, entryFrame m as ml = mkF m 0 L0 [])
    (body : ∀ p e s m below meth c T, p.tables.exec = Jvm.exec → c.code = bytes → c.maxLocals = ml → s.vm.findClass y.cls = some m.cls → meth.name = y.name → meth.sig.returnType = rt → meth.locks = false → Z.Warmed39 s.vm →
      Stand p l e R s m as below meth c T [] 0 0 → T.heap = h0 → OGo p e below s R Q (T.setTop (mkF m 0 L0 []))) : OMet l Z y bytes ml rt ws R as h0 Q := by
  refine MetFree.of_bodySF hp hisR ?_
  intro p e s m args below meth c s₁ Bd hml0 hP hK
  obtain ⟨rfl, hZ, hh⟩ := hP
  have X0 : Stand p l e R s m _ below meth c s₁ [] 0 0 := Stand.of_body Bd
  obtain ⟨t, o, h1, h2⟩ := body p e s m below meth c s₁ Bd.exec Bd.bytes hml0 (findClass_of_methodNamed Bd.named) (name_of_methodNamed Bd.named Bd.method).1 Bd.returns Bd.notSynchronized hZ X0 (by rw [← hh, Bd.state]; rfl)
  exact ⟨t, o, castTop (ef m) h1, h2⟩
variable {own : String} {index : Nat} {y z : MethodName} {bytes : ByteArray} {ml W : Nat} {rt : Option FieldType} {rm : Room} {as : Array Value}
theorem own_callS (X : Stand p l e R s m args below meth c T locs cells slots) (hx : p.tables.exec = Jvm.exec) (hZ : Z.Warmed39 s.vm) (hown : s.vm.findClass own = some m.cls)
    (w1 : (Jvm.Cond.methodLink own index y).before a0 Z = true) (w2 : (Jvm.Cond.static y).before a0 Z = true) (w3 : (Jvm.Cond.initialized y.cls).before a0 Z = true) (w4 : (Jvm.Cond.code y bytes ml rt).before a0 Z = true)
    (hy : y.cls ≠ "java/lang/invoke/MethodHandle" ∧ y.cls ≠ "java/lang/invoke/VarHandle") (hM : OMet l Z y bytes ml rt [] rm as h Q) (hf : rm.frames + 1 ≤ R.frames) (hl : W + (ml + 11) + rm.locals ≤ R.locals)
    {g : JFrame} (hg : g.method = m) (hsz : g.locals.size = c.maxLocals) {argsL rest : List Value} (hlen : ∀ sig, parseMethodDescriptor y.desc = some sig → argsL.length = sig.parameters.length) (hstack : g.stack = argsL.reverse ++ rest)
    (hW : 2 * g.monitorRoom + (rest.map fun v => v.category).sum ≤ W) (hd : decode c.code g.pc = .ok (.invokestatic index, 3)) (ha : argsL.toArray = as) (eT : T.heap = h) (hc : cells + rm.cells ≤ R.cells) (hs : slots + rm.slots ≤ R.slots) :
    ∃ v T' L, Stand p l e R s m args below meth c T' (locs ++ L) (cells + rm.cells) (slots + rm.slots) ∧ Q v T'.heap L ∧ ∀ t, Steps p.tables e below (T'.setTop { g with pc := g.pc + 3, stack := v.toList ++ rest }) t → Steps p.tables e below (T.setTop g) t := by
  obtain ⟨v, _, ⟨T3, L3, k3, n3⟩, -, X3, ⟨Lc3, hQ3, l3, y3, z3⟩, st3⟩ := Jvm.LawKit.callS X hx (y := y) hown (mvT hZ w1) (mvT hZ w2) (mvT hZ w3) (mvT hZ w4) hy (backOf (W := W) hM hZ w4 w3 hf hl) hg hsz hlen hstack hW hd (fun _ _ => ⟨ha, eT, hc, hs⟩)
  dsimp only [Pt.U, Pt.locs, Pt.cells, Pt.slots] at X3 l3 y3 z3 st3 hQ3
  subst l3 y3 z3
  exact ⟨v, T3, Lc3, X3, hQ3, st3⟩
theorem own_callSP {v0 : Option Value} (X : Stand p l e R s m args below meth c T locs cells slots) (hx : p.tables.exec = Jvm.exec) (hZ : Z.Warmed39 s.vm) (hown : s.vm.findClass own = some m.cls)
    (w1 : (Jvm.Cond.methodLink own index y).before a0 Z = true) (w2 : (Jvm.Cond.static y).before a0 Z = true) (w3 : (Jvm.Cond.initialized y.cls).before a0 Z = true) (w4 : (Jvm.Cond.code y bytes ml rt).before a0 Z = true)
    (hy : y.cls ≠ "java/lang/invoke/MethodHandle" ∧ y.cls ≠ "java/lang/invoke/VarHandle") (hM : OPure l Z y bytes ml rt [] rm as h v0) (hf : rm.frames + 1 ≤ R.frames) (hl : W + (ml + 11) + rm.locals ≤ R.locals)
    {g : JFrame} (hg : g.method = m) (hsz : g.locals.size = c.maxLocals) {argsL rest : List Value} (hlen : ∀ sig, parseMethodDescriptor y.desc = some sig → argsL.length = sig.parameters.length) (hstack : g.stack = argsL.reverse ++ rest)
    (hW : 2 * g.monitorRoom + (rest.map fun v => v.category).sum ≤ W) (hd : decode c.code g.pc = .ok (.invokestatic index, 3)) (ha : argsL.toArray = as) (eT : T.heap = h) (hc : cells + rm.cells ≤ R.cells) (hs : slots + rm.slots ≤ R.slots) :
    ∃ T', Stand p l e R s m args below meth c T' locs (cells + rm.cells) (slots + rm.slots) ∧ T'.heap = h ∧ ∀ t, Steps p.tables e below (T'.setTop { g with pc := g.pc + 3, stack := v0.toList ++ rest }) t → Steps p.tables e below (T.setTop g) t := by
  obtain ⟨v, T', L, X', ⟨rfl, rfl, e'⟩, st⟩ := own_callS X hx hZ hown w1 w2 w3 w4 hy hM hf hl hg hsz hlen hstack hW hd ha eT hc hs
  rw [List.append_nil] at X'
  exact ⟨T', X', e', st⟩
theorem own_callI (X : Stand p l e R s m args below meth c T locs cells slots) (hx : p.tables.exec = Jvm.exec) (hZ : Z.Warmed39 s.vm) (hy1 : y.name = "<init>") (hown : s.vm.findClass own = some m.cls)
    (w1 : (Jvm.Cond.methodLink own index y).before a0 Z = true) (w2 : (Jvm.Cond.instanceMethod y).before a0 Z = true) (w4 : (Jvm.Cond.code y bytes ml none).before a0 Z = true) (w3 : (Jvm.Cond.initialized y.cls).before a0 Z = true)
    (hy : y.cls ≠ "java/lang/invoke/MethodHandle" ∧ y.cls ≠ "java/lang/invoke/VarHandle") (hM : OMet l Z y bytes ml none [] rm as h Q) (hf : rm.frames + 1 ≤ R.frames) (hl : W + (ml + 11) + rm.locals ≤ R.locals) {a : Addr}
    {g : JFrame} (hg : g.method = m) (hsz : g.locals.size = c.maxLocals) {argsL rest : List Value} (hlen : ∀ sig, parseMethodDescriptor y.desc = some sig → argsL.length = sig.parameters.length) (hstack : g.stack = argsL.reverse ++ .ref a :: rest)
    (hW : 2 * g.monitorRoom + (rest.map fun v => v.category).sum ≤ W) (hd : decode c.code g.pc = .ok (.invokespecial index, 3)) (ha : (.ref a :: argsL).toArray = as) (eT : T.heap = h) (hc : cells + rm.cells ≤ R.cells) (hs : slots + rm.slots ≤ R.slots) :
    ∃ v T' L, Stand p l e R s m args below meth c T' (locs ++ L) (cells + rm.cells) (slots + rm.slots) ∧ Q v T'.heap L ∧ ∀ t, Steps p.tables e below (T'.setTop { g with pc := g.pc + 3, stack := v.toList ++ rest }) t → Steps p.tables e below (T.setTop g) t := by
  obtain ⟨v, _, ⟨T3, L3, k3, n3⟩, -, X3, ⟨Lc3, hQ3, l3, y3, z3⟩, st3⟩ := X.specialBack hx (y := y) hy1 hown (mvT hZ w1) (mvT hZ w2) (mvT hZ w4) hy (backOf (W := W) hM hZ w4 w3 hf hl) hg hsz (Steps.refl _) (a := a) hlen hstack hW hd (fun _ _ => ⟨ha, eT, hc, hs⟩)
  dsimp only [Pt.U, Pt.locs, Pt.cells, Pt.slots] at X3 l3 y3 z3 st3 hQ3
  subst l3 y3 z3
  exact ⟨v, T3, Lc3, X3, hQ3, fun t k => st3.trans k⟩
theorem own_callIP {v0 : Option Value} (X : Stand p l e R s m args below meth c T locs cells slots) (hx : p.tables.exec = Jvm.exec) (hZ : Z.Warmed39 s.vm) (hy1 : y.name = "<init>") (hown : s.vm.findClass own = some m.cls)
    (w1 : (Jvm.Cond.methodLink own index y).before a0 Z = true) (w2 : (Jvm.Cond.instanceMethod y).before a0 Z = true) (w4 : (Jvm.Cond.code y bytes ml none).before a0 Z = true) (w3 : (Jvm.Cond.initialized y.cls).before a0 Z = true)
    (hy : y.cls ≠ "java/lang/invoke/MethodHandle" ∧ y.cls ≠ "java/lang/invoke/VarHandle") (hM : OPure l Z y bytes ml none [] rm as h v0) (hf : rm.frames + 1 ≤ R.frames) (hl : W + (ml + 11) + rm.locals ≤ R.locals) {a : Addr}
    {g : JFrame} (hg : g.method = m) (hsz : g.locals.size = c.maxLocals) {argsL rest : List Value} (hlen : ∀ sig, parseMethodDescriptor y.desc = some sig → argsL.length = sig.parameters.length) (hstack : g.stack = argsL.reverse ++ .ref a :: rest)
    (hW : 2 * g.monitorRoom + (rest.map fun v => v.category).sum ≤ W) (hd : decode c.code g.pc = .ok (.invokespecial index, 3)) (ha : (.ref a :: argsL).toArray = as) (eT : T.heap = h) (hc : cells + rm.cells ≤ R.cells) (hs : slots + rm.slots ≤ R.slots) :
    ∃ T', Stand p l e R s m args below meth c T' locs (cells + rm.cells) (slots + rm.slots) ∧ T'.heap = h ∧ ∀ t, Steps p.tables e below (T'.setTop { g with pc := g.pc + 3, stack := v0.toList ++ rest }) t → Steps p.tables e below (T.setTop g) t := by
  obtain ⟨v, T', L, X', ⟨rfl, rfl, e'⟩, st⟩ := own_callI X hx hZ hy1 hown w1 w2 w4 w3 hy hM hf hl hg hsz hlen hstack hW hd ha eT hc hs
  rw [List.append_nil] at X'
  exact ⟨T', X', e', st⟩
theorem own_callV {C : String} (X : Stand p l e R s m args below meth c T locs cells slots) (hx : p.tables.exec = Jvm.exec) (hZ : Z.Warmed39 s.vm) (hown : s.vm.findClass own = some m.cls)
    (w1 : (Jvm.Cond.methodLink own index y).before a0 Z = true) (w2 : (Jvm.Cond.declares y).before a0 Z = true) (hnf : NotFace s y) (ws : (Jvm.Cond.selects C y z).before a0 Z = true) (wi : (Jvm.Cond.instanceMethod z).before a0 Z = true)
    (w4 : (Jvm.Cond.code z bytes ml rt).before a0 Z = true) (w3 : (Jvm.Cond.initialized z.cls).before a0 Z = true)
    (hy : y.cls ≠ "java/lang/invoke/MethodHandle" ∧ y.cls ≠ "java/lang/invoke/VarHandle") (hM : OMet l Z z bytes ml rt [] rm as h Q) (hf : rm.frames + 1 ≤ R.frames) (hl : W + (ml + 11) + rm.locals ≤ R.locals) {a : Addr} (E : Exa Z h a C)
    {g : JFrame} (hg : g.method = m) (hsz : g.locals.size = c.maxLocals) {argsL rest : List Value} (hlen : ∀ sig, parseMethodDescriptor y.desc = some sig → argsL.length = sig.parameters.length) (hstack : g.stack = argsL.reverse ++ .ref a :: rest)
    (hW : 2 * g.monitorRoom + (rest.map fun v => v.category).sum ≤ W) (hd : decode c.code g.pc = .ok (.invokevirtual index, 3)) (ha : (.ref a :: argsL).toArray = as) (eT : T.heap = h) (hc : cells + rm.cells ≤ R.cells) (hs : slots + rm.slots ≤ R.slots) :
    ∃ v T' L, Stand p l e R s m args below meth c T' (locs ++ L) (cells + rm.cells) (slots + rm.slots) ∧ Q v T'.heap L ∧ ∀ t, Steps p.tables e below (T'.setTop { g with pc := g.pc + 3, stack := v.toList ++ rest }) t → Steps p.tables e below (T.setTop g) t := by
  obtain ⟨cq, kq, qa, qb, qc⟩ := isOf hZ eT E
  obtain ⟨v, _, ⟨T3, L3, k3, n3⟩, -, X3, ⟨Lc3, hQ3, l3, y3, z3⟩, st3⟩ := X.virtualBack hx (y := y) (z := z) hown (mvT hZ w1) (mvT hZ w2) hnf (mvT hZ ws) (mvT hZ wi) hy (backOf (W := W) hM hZ w4 w3 hf hl) qa qc hg hsz (Steps.refl _) hlen hstack hW hd (fun _ _ => ⟨ha, eT, hc, hs⟩)
  dsimp only [Pt.U, Pt.locs, Pt.cells, Pt.slots] at X3 l3 y3 z3 st3 hQ3
  subst l3 y3 z3
  exact ⟨v, T3, Lc3, X3, hQ3, fun t k => st3.trans k⟩
theorem own_callVP {C : String} {v0 : Option Value} (X : Stand p l e R s m args below meth c T locs cells slots) (hx : p.tables.exec = Jvm.exec) (hZ : Z.Warmed39 s.vm) (hown : s.vm.findClass own = some m.cls)
    (w1 : (Jvm.Cond.methodLink own index y).before a0 Z = true) (w2 : (Jvm.Cond.declares y).before a0 Z = true) (hnf : NotFace s y) (ws : (Jvm.Cond.selects C y z).before a0 Z = true) (wi : (Jvm.Cond.instanceMethod z).before a0 Z = true)
    (w4 : (Jvm.Cond.code z bytes ml rt).before a0 Z = true) (w3 : (Jvm.Cond.initialized z.cls).before a0 Z = true)
    (hy : y.cls ≠ "java/lang/invoke/MethodHandle" ∧ y.cls ≠ "java/lang/invoke/VarHandle") (hM : OPure l Z z bytes ml rt [] rm as h v0) (hf : rm.frames + 1 ≤ R.frames) (hl : W + (ml + 11) + rm.locals ≤ R.locals) {a : Addr} (E : Exa Z h a C)
    {g : JFrame} (hg : g.method = m) (hsz : g.locals.size = c.maxLocals) {argsL rest : List Value} (hlen : ∀ sig, parseMethodDescriptor y.desc = some sig → argsL.length = sig.parameters.length) (hstack : g.stack = argsL.reverse ++ .ref a :: rest)
    (hW : 2 * g.monitorRoom + (rest.map fun v => v.category).sum ≤ W) (hd : decode c.code g.pc = .ok (.invokevirtual index, 3)) (ha : (.ref a :: argsL).toArray = as) (eT : T.heap = h) (hc : cells + rm.cells ≤ R.cells) (hs : slots + rm.slots ≤ R.slots) :
    ∃ T', Stand p l e R s m args below meth c T' locs (cells + rm.cells) (slots + rm.slots) ∧ T'.heap = h ∧ ∀ t, Steps p.tables e below (T'.setTop { g with pc := g.pc + 3, stack := v0.toList ++ rest }) t → Steps p.tables e below (T.setTop g) t := by
  obtain ⟨v, T', L, X', ⟨rfl, rfl, e'⟩, st⟩ := own_callV X hx hZ hown w1 w2 hnf ws wi w4 w3 hy hM hf hl E hg hsz hlen hstack hW hd ha eT hc hs
  rw [List.append_nil] at X'
  exact ⟨T', X', e', st⟩
theorem own_callR (X : Stand p l e R s m args below meth c T locs cells slots) (hx : p.tables.exec = Jvm.exec) (hZ : Z.Warmed39 s.vm) (hown : s.vm.findClass own = some m.cls)
    (w1 : (Jvm.Cond.methodLink own index y).before a0 Z = true) (w2 : (Jvm.Cond.instanceMethod y).before a0 Z = true) (ws : (Jvm.Cond.selects y.cls y y).before a0 Z = true) (wp : (Jvm.Cond.privateMethod y).before a0 Z = true)
    (w4 : (Jvm.Cond.code y bytes ml rt).before a0 Z = true) (w3 : (Jvm.Cond.initialized y.cls).before a0 Z = true)
    (hy : y.cls ≠ "java/lang/invoke/MethodHandle" ∧ y.cls ≠ "java/lang/invoke/VarHandle") (hM : OMet l Z y bytes ml rt [] rm as h Q) (hf : rm.frames + 1 ≤ R.frames) (hl : W + (ml + 11) + rm.locals ≤ R.locals) {a : Addr} {C : String} (E : Exa Z h a C)
    {g : JFrame} (hg : g.method = m) (hsz : g.locals.size = c.maxLocals) {argsL rest : List Value} (hlen : ∀ sig, parseMethodDescriptor y.desc = some sig → argsL.length = sig.parameters.length) (hstack : g.stack = argsL.reverse ++ .ref a :: rest)
    (hW : 2 * g.monitorRoom + (rest.map fun v => v.category).sum ≤ W) (hd : decode c.code g.pc = .ok (.invokevirtual index, 3)) (ha : (.ref a :: argsL).toArray = as) (eT : T.heap = h) (hc : cells + rm.cells ≤ R.cells) (hs : slots + rm.slots ≤ R.slots) :
    ∃ v T' L, Stand p l e R s m args below meth c T' (locs ++ L) (cells + rm.cells) (slots + rm.slots) ∧ Q v T'.heap L ∧ ∀ t, Steps p.tables e below (T'.setTop { g with pc := g.pc + 3, stack := v.toList ++ rest }) t → Steps p.tables e below (T.setTop g) t := by
  obtain ⟨cq, qa, qb⟩ := E.cell
  obtain ⟨v, _, ⟨T3, L3, k3, n3⟩, -, X3, ⟨Lc3, hQ3, l3, y3, z3⟩, st3⟩ := X.privateBack hx (y := y) hown (mvT hZ w1) (mvT hZ w2) (mvT hZ ws) (Cond.privateMethod_at (mvP hZ wp (args := #[]))) (mvT hZ w4) hy (backOf (W := W) hM hZ w4 w3 hf hl) hg hsz (Steps.refl _) (a := a) (by rw [eT]; exact qa) qb hlen hstack hW hd (fun _ _ => ⟨ha, eT, hc, hs⟩)
  dsimp only [Pt.U, Pt.locs, Pt.cells, Pt.slots] at X3 l3 y3 z3 st3 hQ3
  subst l3 y3 z3
  exact ⟨v, T3, Lc3, X3, hQ3, fun t k => st3.trans k⟩
theorem own_callRP {v0 : Option Value} (X : Stand p l e R s m args below meth c T locs cells slots) (hx : p.tables.exec = Jvm.exec) (hZ : Z.Warmed39 s.vm) (hown : s.vm.findClass own = some m.cls)
    (w1 : (Jvm.Cond.methodLink own index y).before a0 Z = true) (w2 : (Jvm.Cond.instanceMethod y).before a0 Z = true) (ws : (Jvm.Cond.selects y.cls y y).before a0 Z = true) (wp : (Jvm.Cond.privateMethod y).before a0 Z = true)
    (w4 : (Jvm.Cond.code y bytes ml rt).before a0 Z = true) (w3 : (Jvm.Cond.initialized y.cls).before a0 Z = true)
    (hy : y.cls ≠ "java/lang/invoke/MethodHandle" ∧ y.cls ≠ "java/lang/invoke/VarHandle") (hM : OPure l Z y bytes ml rt [] rm as h v0) (hf : rm.frames + 1 ≤ R.frames) (hl : W + (ml + 11) + rm.locals ≤ R.locals) {a : Addr} {C : String} (E : Exa Z h a C)
    {g : JFrame} (hg : g.method = m) (hsz : g.locals.size = c.maxLocals) {argsL rest : List Value} (hlen : ∀ sig, parseMethodDescriptor y.desc = some sig → argsL.length = sig.parameters.length) (hstack : g.stack = argsL.reverse ++ .ref a :: rest)
    (hW : 2 * g.monitorRoom + (rest.map fun v => v.category).sum ≤ W) (hd : decode c.code g.pc = .ok (.invokevirtual index, 3)) (ha : (.ref a :: argsL).toArray = as) (eT : T.heap = h) (hc : cells + rm.cells ≤ R.cells) (hs : slots + rm.slots ≤ R.slots) :
    ∃ T', Stand p l e R s m args below meth c T' locs (cells + rm.cells) (slots + rm.slots) ∧ T'.heap = h ∧ ∀ t, Steps p.tables e below (T'.setTop { g with pc := g.pc + 3, stack := v0.toList ++ rest }) t → Steps p.tables e below (T.setTop g) t := by
  obtain ⟨v, T', L, X', ⟨rfl, rfl, e'⟩, st⟩ := own_callR X hx hZ hown w1 w2 ws wp w4 w3 hy hM hf hl E hg hsz hlen hstack hW hd ha eT hc hs
  rw [List.append_nil] at X'
  exact ⟨T', X', e', st⟩
/-- the array at a has n places; place j holds f j -/
def OAr (Z : State) (h : Heap) (a : Addr) (ty : FieldType) (n : Nat) (f : Nat → Value) : Prop := ∃ c : Cell, Arr Z h a c ty ∧ c.slots.size = n ∧ ∀ j, j < n → c.slots[j]? = some (f j)
section OwnArr
variable {h' : Heap} {a b : Addr} {ty : FieldType} {n sl : Nat} {f f' : Nat → Value} {v : Value} {k : ClassId} {i : Int32}
theorem OAr.lt (F : OAr Z h a ty n f) : a < h.size := by obtain ⟨c, A, -⟩ := F; exact A.lt
theorem OAr.ext (F : OAr Z h a ty n f) (E : Ext h h') : OAr Z h' a ty n f := by obtain ⟨c, A, r⟩ := F; exact ⟨c, A.ext E, r⟩
theorem OAr.other (F : OAr Z h a ty n f) (W : Wr h h' b sl v) (q : a ≠ b) : OAr Z h' a ty n f := by obtain ⟨c, A, r⟩ := F; exact ⟨c, A.other W q, r⟩
theorem OAr.keep {ws : List Addr} (F : OAr Z h a ty n f) (K : Keep h h' ws) (q : a ∉ ws) : OAr Z h' a ty n f := by obtain ⟨c, A, r⟩ := F; exact ⟨c, ⟨K.2.1 a c A.1 q, A.2⟩, r⟩
theorem OAr.cong (F : OAr Z h a ty n f) (q : ∀ j, j < n → f j = f' j) : OAr Z h a ty n f' := by obtain ⟨c, A, S, H⟩ := F; exact ⟨c, A, S, fun j hj => by rw [← q j hj]; exact H j hj⟩
theorem OAr.new (A : Arr Z h a (newA k ty i) ty) : OAr Z h a ty i.toNatClampNeg (fun _ => defaultValue ty) := ⟨_, A, sz_new _ _ _, fun j hj => by simp [newA, hj]⟩
theorem OAr.set {c : Cell} (A : Arr Z h a c ty) (S : c.slots.size = n) (H : ∀ j, j < n → c.slots[j]? = some (f j)) (W : Wr h h' a sl v) : OAr Z h' a ty n (fun j => if j = sl then v else f j) := by
  refine ⟨_, A.same W, by rw [sz_set]; exact S, fun j hj => ?_⟩
  by_cases q : j = sl
  · subst q
    simp [Cell.setSlot, S, hj]
  · simp only [q, if_false, Cell.setSlot]
    rw [Array.getElem?_setIfInBounds_ne (Ne.symm q)]
    exact H j hj
theorem own_in {c : Cell} (S : c.slots.size = n) (h0 : ¬ i < 0) (h1 : i.toNatClampNeg < n) : ¬ (i < 0 ∨ c.slots.size ≤ i.toNatClampNeg) := by
  rintro (q | q)
  · exact h0 q
  · omega
/-- the clone of an array -/
theorem own_clone {own ad : String} {index : Nat} (X : Stand p l e R s m args below meth c T locs cells slots) (hx : p.tables.exec = Jvm.exec) (hZ : Z.Warmed39 s.vm) (hown : s.vm.findClass own = some m.cls)
    (w1 : (Jvm.Cond.methodLink own index ⟨ad, "clone", "()Ljava/lang/Object;"⟩).before a0 Z = true) (w2 : (Jvm.Cond.sameMethod ad "java/lang/Object" "clone" "()Ljava/lang/Object;").before a0 Z = true) (w3 : (Jvm.Cond.native ⟨"java/lang/Object", "clone", "()Ljava/lang/Object;"⟩).before a0 Z = true)
    (w4 : (Jvm.Cond.instanceMethod ⟨"java/lang/Object", "clone", "()Ljava/lang/Object;"⟩).before a0 Z = true) (w5 : (Jvm.Cond.selects ad ⟨ad, "clone", "()Ljava/lang/Object;"⟩ ⟨"java/lang/Object", "clone", "()Ljava/lang/Object;"⟩).before a0 Z = true) (w6 : (Jvm.Cond.castable ad "java/lang/Cloneable").before a0 Z = true)
    (eT : T.heap = h) (F : OAr Z h a ty n f) (E : Exa Z h a ad) (hfit : ∀ j, j < n → fits ty (f j) = true) {g : JFrame} (hg : g.method = m) (hsize : g.locals.size = c.maxLocals) {rest : List Value} (hst : g.stack = .ref a :: rest) (hd : decode c.code g.pc = .ok (.invokevirtual index, 3))
    (hf : 1 ≤ R.frames) {W : Nat} (hW : 2 * g.monitorRoom + (rest.map fun v => v.category).sum ≤ W) (hl : W + 14 ≤ R.locals) {cap : Nat} (hcap : n ≤ cap) (hc : cells + 1 ≤ R.cells) (hsl : slots + cap ≤ R.slots) :
    ∃ T' h', Stand p l e R s m args below meth c T' locs (cells + 1) (slots + cap) ∧ T'.heap = h' ∧ Ext h h' ∧ OAr Z h' h.size ty n f ∧ Exa Z h' h.size ad ∧
      ∀ target, Steps p.tables e below (T'.setTop { g with pc := g.pc + 3, stack := .ref h.size :: rest }) target → Steps p.tables e below (T.setTop g) target := by
  obtain ⟨cl, A, S, H⟩ := F
  have FC : FitC Z cl := fitC_of A fun i hi v hv => by rw [H i (S ▸ hi)] at hv; cases hv; exact hfit i (S ▸ hi)
  obtain ⟨T', h', X', e', ex, A', E', st⟩ := cloneA X hx hZ hown w1 w2 w3 w4 w5 w6 eT A E FC hg hsize hst hd hf hW hl (cap := cap) (by rw [S]; exact hcap) hc hsl
  exact ⟨T', h', X', e', ex, ⟨cloneOf cl, A', S, H⟩, E', st⟩
end OwnArr
theorem own_nat {i : Nat} (hi : i < 2 ^ 31) : (Int32.ofNat i).toNatClampNeg = i ∧ ¬ Int32.ofNat i < 0 ∧ (Int32.ofNat i).toInt = i := by
  have q : (Int32.ofNat i).toInt = i := Int32.toInt_ofNat_of_lt hi
  have z : (0 : Int32).toInt = 0 := by decide
  refine ⟨by rw [Int32.toNatClampNeg, q]; simp, ?_, q⟩
  rw [Int32.lt_iff_toInt_lt, q, z]; omega
theorem own_lt {i n : Nat} (hi : i < 2 ^ 31) (hn : n < 2 ^ 31) : Int32.ofNat i < Int32.ofNat n ↔ i < n := by
  rw [Int32.lt_iff_toInt_lt, (own_nat hi).2.2, (own_nat hn).2.2]; omega
theorem own_up (i : Nat) : Int32.ofNat i + (1 : Int32) = Int32.ofNat (i + 1) := (Int32.ofNat_add i 1).symm
abbrev OLawQ (n0 : Nat) : Option Value → Heap → List Loc → Prop := fun v _ L => v = some (.int (1 : Int32)) ∧ Fr n0 L
/-- a boolean as the machine's int -/
def OB (b : Bool) : Int32 := if b then 1 else 0
theorem own_b1 : nar .boolean (1 : Int32) = 1 := by decide
theorem own_b0 : nar .boolean (0 : Int32) = 0 := by decide
theorem own_nb (b : Bool) : nar .boolean (OB b) = OB b := by cases b <;> decide
end OwnKit
theorem pn_java_lang_Record : plainName "java/lang/Record" = true := by first | (simp [plainName, overriddenIn]; done) | decide +kernel
theorem ef_2_R (m : MethodId) (x0 : Addr) : entryFrame m #[(.ref x0)] 1 = mkF m 0 #[.val (.ref x0)] [] := by first | (simp [entryFrame, mkF, argsToLocals, Value.category]; done) | rfl
theorem d2_0 : decode jdk_30_method_1_code 0 = .ok (.aload_n 0, 1) := by decide +kernel
theorem d2_1 : decode jdk_30_method_1_code 1 = .ok (.invokespecial 1, 3) := by decide +kernel
theorem d2_4 : decode jdk_30_method_1_code 4 = .ok (.return_, 1) := by decide +kernel
set_option maxRecDepth 65536 in
set_option maxHeartbeats 40000000 in
theorem rm2 (l : Launch) (Z : State) (a0 : Array Value) (hw : ∀ d ∈ tables_1, d.before a0 Z = true) (a1 : Addr) (h0 : Heap) :
    OPure l Z (⟨"java/lang/Record", "<init>", "()V"⟩ : MethodName) jdk_30_method_1_code 1 none [] ({ frames := 1, cells := 0, slots := 0, locals := 12 } : Room) #[(.ref a1)] h0 (none) := by
  refine own_body (plainFor_of_name pn_java_lang_Record) (fun m => ef_2_R m a1) ?_
  intro p e s m below meth c T0 hx hby hml hown hnm hret hlk hZ X0 e0
  have hown : s.vm.findClass "java/lang/Record" = some m.cls := hown
  have hml : c.maxLocals = 1 := hml
  show OGo p e below s _ _ (T0.setTop (mkF m 0 #[.val (.ref a1)] []))
  refine own_st (fun t k => XS.aloadN X0.here hx rfl (hb hby d2_0) rfl rfl k) ?_
  show OGo p e below s _ _ (T0.setTop (mkF m 1 #[.val (.ref a1)] [(.ref a1)]))
  obtain ⟨T1, X1, e1, st1⟩ := initO X0 hx hZ hown (hw _ (List.mem_of_getElem? (i := 13) rfl)) (hw _ (List.mem_of_getElem? (i := 14) rfl)) (hw _ (List.mem_of_getElem? (i := 15) rfl)) e0 (g := (mkF m 1 #[.val (.ref a1)] [(.ref a1)])) rfl (by rw [hml]; rfl) rfl (hb hby d2_1) (by decide) (W := 0) (by show 2 * 0 + _ ≤ _; exact Nat.le_of_eq rfl) (by decide)
  refine own_st st1 ?_
  show OGo p e below s _ _ (T1.setTop (mkF m 4 #[.val (.ref a1)] []))
  exact own_retV X1 hx hlk hret (hb hby d2_4) (by decide) (by decide) (⟨rfl, rfl, e1⟩)
theorem pn_com_example_kurslot_kurslot_matching_HiddenLimits : plainName "com/example/kurslot/kurslot/matching/HiddenLimits" = true := by first | (simp [plainName, overriddenIn]; done) | decide +kernel
theorem ef_1_RJJ (m : MethodId) (x0 : Addr) (x1 : Int64) (x2 : Int64) : entryFrame m #[(.ref x0), (.long x1), (.long x2)] 5 = mkF m 0 #[.val (.ref x0), .val (.long x1), .second, .val (.long x2), .second] [] := by first | (simp [entryFrame, mkF, argsToLocals, Value.category]; done) | rfl
theorem d1_0 : decode prog_39_method_1_code 0 = .ok (.aload_n 0, 1) := by decide +kernel
theorem d1_1 : decode prog_39_method_1_code 1 = .ok (.invokespecial 1, 3) := by decide +kernel
theorem pd_0 : parseMethodDescriptor "()V" = some ⟨[], none⟩ := by decide +kernel
theorem d1_4 : decode prog_39_method_1_code 4 = .ok (.lload_n 1, 1) := by decide +kernel
theorem d1_5 : decode prog_39_method_1_code 5 = .ok (.lconst 1, 1) := by decide +kernel
theorem d1_6 : decode prog_39_method_1_code 6 = .ok (.lcmp, 1) := by decide +kernel
theorem d1_7 : decode prog_39_method_1_code 7 = .ok (.ifCond .lt 25, 3) := by decide +kernel
theorem d1_10 : decode prog_39_method_1_code 10 = .ok (.lload_n 1, 1) := by decide +kernel
theorem d1_11 : decode prog_39_method_1_code 11 = .ok (.ldc2_w 9, 3) := by decide +kernel
theorem d1_14 : decode prog_39_method_1_code 14 = .ok (.lcmp, 1) := by decide +kernel
theorem d1_15 : decode prog_39_method_1_code 15 = .ok (.ifCond .gt 17, 3) := by decide +kernel
theorem d1_18 : decode prog_39_method_1_code 18 = .ok (.lload_n 3, 1) := by decide +kernel
theorem d1_19 : decode prog_39_method_1_code 19 = .ok (.lconst 1, 1) := by decide +kernel
theorem d1_20 : decode prog_39_method_1_code 20 = .ok (.lcmp, 1) := by decide +kernel
theorem d1_21 : decode prog_39_method_1_code 21 = .ok (.ifCond .lt 11, 3) := by decide +kernel
theorem d1_24 : decode prog_39_method_1_code 24 = .ok (.lload_n 3, 1) := by decide +kernel
theorem d1_25 : decode prog_39_method_1_code 25 = .ok (.ldc2_w 9, 3) := by decide +kernel
theorem d1_28 : decode prog_39_method_1_code 28 = .ok (.lcmp, 1) := by decide +kernel
theorem d1_29 : decode prog_39_method_1_code 29 = .ok (.ifCond .le 18, 3) := by decide +kernel
theorem d1_47 : decode prog_39_method_1_code 47 = .ok (.aload_n 0, 1) := by decide +kernel
theorem d1_48 : decode prog_39_method_1_code 48 = .ok (.lload_n 1, 1) := by decide +kernel
theorem d1_49 : decode prog_39_method_1_code 49 = .ok (.putfield 20, 3) := by decide +kernel
theorem d1_52 : decode prog_39_method_1_code 52 = .ok (.aload_n 0, 1) := by decide +kernel
theorem d1_53 : decode prog_39_method_1_code 53 = .ok (.lload_n 3, 1) := by decide +kernel
theorem d1_54 : decode prog_39_method_1_code 54 = .ok (.putfield 26, 3) := by decide +kernel
theorem d1_57 : decode prog_39_method_1_code 57 = .ok (.return_, 1) := by decide +kernel
set_option maxRecDepth 65536 in
set_option maxHeartbeats 40000000 in
theorem rm1 (l : Launch) (Z : State) (a0 : Array Value) (hw : ∀ d ∈ tables_1, d.before a0 Z = true) (a1 : Addr) (q2 : Int64) (q3 : Int64) (h0 : Heap) (n0 : Nat) (Z0 : n0 ≤ h0.size) (g1 : n0 ≤ a1) (E1 : Exa Z h0 a1 "com/example/kurslot/kurslot/matching/HiddenLimits") (F1 : Fld Z h0 a1 "com/example/kurslot/kurslot/matching/HiddenLimits" "minShow" "J" (.long 0)) (F2 : Fld Z h0 a1 "com/example/kurslot/kurslot/matching/HiddenLimits" "maxRatio" "J" (.long 0)) (h1 : ¬ q2 < 1) (h2 : ¬ (999999999 : Int64) < q2) (h3 : ¬ q3 < 1) (h4 : ¬ (999999999 : Int64) < q3) :
    OMet l Z (⟨"com/example/kurslot/kurslot/matching/HiddenLimits", "<init>", "(JJ)V"⟩ : MethodName) prog_39_method_1_code 5 none [] ({ frames := 2, cells := 0, slots := 0, locals := 24 } : Room) #[(.ref a1), (.long q2), (.long q3)] h0 (fun v h' L => v = none ∧ Fr n0 L ∧ Keep h0 h' [a1] ∧ Exa Z h' a1 "com/example/kurslot/kurslot/matching/HiddenLimits" ∧ Fld Z h' a1 "com/example/kurslot/kurslot/matching/HiddenLimits" "minShow" "J" (.long q2) ∧ Fld Z h' a1 "com/example/kurslot/kurslot/matching/HiddenLimits" "maxRatio" "J" (.long q3)) := by
  refine own_body (plainFor_of_name pn_com_example_kurslot_kurslot_matching_HiddenLimits) (fun m => ef_1_RJJ m a1 q2 q3) ?_
  intro p e s m below meth c T0 hx hby hml hown hnm hret hlk hZ X0 e0
  have hown : s.vm.findClass "com/example/kurslot/kurslot/matching/HiddenLimits" = some m.cls := hown
  have hml : c.maxLocals = 5 := hml
  show OGo p e below s _ _ (T0.setTop (mkF m 0 #[.val (.ref a1), .val (.long q2), .second, .val (.long q3), .second] []))
  have N0 := Fr.nil n0
  have K0 := Keep.refl h0 [a1]
  refine own_st (fun t k => XS.aloadN X0.here hx rfl (hb hby d1_0) rfl rfl k) ?_
  show OGo p e below s _ _ (T0.setTop (mkF m 1 #[.val (.ref a1), .val (.long q2), .second, .val (.long q3), .second] [(.ref a1)]))
  obtain ⟨T2, X2, e2, st2⟩ := own_callIP X0 hx hZ (y := (⟨"java/lang/Record", "<init>", "()V"⟩ : MethodName)) (W := 0) rfl hown (hw _ (List.mem_of_getElem? (i := 8) rfl)) (hw _ (List.mem_of_getElem? (i := 9) rfl)) (hw _ (List.mem_of_getElem? (i := 12) rfl)) (hw _ (List.mem_of_getElem? (i := 11) rfl)) (by decide) (rm2 l Z a0 hw a1 h0) (by decide) (by decide) (a := a1) (g := (mkF m 1 #[.val (.ref a1), .val (.long q2), .second, .val (.long q3), .second] [(.ref a1)])) rfl (by rw [hml]; rfl) (argsL := []) (rest := []) (lenOf pd_0 rfl) rfl (by show 2 * 0 + _ ≤ _; exact Nat.le_of_eq rfl) (hb hby d1_1) rfl e0 (by decide) (by decide)
  refine own_st st2 ?_
  show OGo p e below s _ _ (T2.setTop (mkF m 4 #[.val (.ref a1), .val (.long q2), .second, .val (.long q3), .second] []))
  refine own_st (fun t k => XS.lloadN X2.here hx rfl (hb hby d1_4) rfl k) ?_
  show OGo p e below s _ _ (T2.setTop (mkF m 5 #[.val (.ref a1), .val (.long q2), .second, .val (.long q3), .second] [(.long q2)]))
  refine own_st (fun t k => XS.lconst X2.here hx rfl (hb hby d1_5) k) ?_
  show OGo p e below s _ _ (T2.setTop (mkF m 6 #[.val (.ref a1), .val (.long q2), .second, .val (.long q3), .second] [(.long (1 : Int64)), (.long q2)]))
  refine own_st (fun t k => XS.lcmp X2.here hx rfl (hb hby d1_6) rfl k) ?_
  show OGo p e below s _ _ (T2.setTop (mkF m 7 #[.val (.ref a1), .val (.long q2), .second, .val (.long q3), .second] [(.int (lcmpW q2 (1 : Int64)))]))
  refine own_st (fun t k => XS.ifNo X2.here hx rfl (hb hby d1_7) rfl ((if0 _ _).trans (flt ((not_congr (lw_lt q2 (1 : Int64))).mpr h1)).1) k) ?_
  show OGo p e below s _ _ (T2.setTop (mkF m 10 #[.val (.ref a1), .val (.long q2), .second, .val (.long q3), .second] []))
  refine own_st (fun t k => XS.lloadN X2.here hx rfl (hb hby d1_10) rfl k) ?_
  show OGo p e below s _ _ (T2.setTop (mkF m 11 #[.val (.ref a1), .val (.long q2), .second, .val (.long q3), .second] [(.long q2)]))
  refine own_st (X2.ldc2Long hx hown (mvT hZ (hw _ (List.mem_of_getElem? (i := 16) rfl))) (g := (mkF m 11 #[.val (.ref a1), .val (.long q2), .second, .val (.long q3), .second] [(.long q2)])) rfl (hb hby d1_11)) ?_
  show OGo p e below s _ _ (T2.setTop (mkF m 14 #[.val (.ref a1), .val (.long q2), .second, .val (.long q3), .second] [(.long (999999999 : Int64)), (.long q2)]))
  refine own_st (fun t k => XS.lcmp X2.here hx rfl (hb hby d1_14) rfl k) ?_
  show OGo p e below s _ _ (T2.setTop (mkF m 15 #[.val (.ref a1), .val (.long q2), .second, .val (.long q3), .second] [(.int (lcmpW q2 (999999999 : Int64)))]))
  refine own_st (fun t k => XS.ifNo X2.here hx rfl (hb hby d1_15) rfl ((if0 _ _).trans (flt ((not_congr (lw_gt q2 (999999999 : Int64))).mpr h2)).2.2.1) k) ?_
  show OGo p e below s _ _ (T2.setTop (mkF m 18 #[.val (.ref a1), .val (.long q2), .second, .val (.long q3), .second] []))
  refine own_st (fun t k => XS.lloadN X2.here hx rfl (hb hby d1_18) rfl k) ?_
  show OGo p e below s _ _ (T2.setTop (mkF m 19 #[.val (.ref a1), .val (.long q2), .second, .val (.long q3), .second] [(.long q3)]))
  refine own_st (fun t k => XS.lconst X2.here hx rfl (hb hby d1_19) k) ?_
  show OGo p e below s _ _ (T2.setTop (mkF m 20 #[.val (.ref a1), .val (.long q2), .second, .val (.long q3), .second] [(.long (1 : Int64)), (.long q3)]))
  refine own_st (fun t k => XS.lcmp X2.here hx rfl (hb hby d1_20) rfl k) ?_
  show OGo p e below s _ _ (T2.setTop (mkF m 21 #[.val (.ref a1), .val (.long q2), .second, .val (.long q3), .second] [(.int (lcmpW q3 (1 : Int64)))]))
  refine own_st (fun t k => XS.ifNo X2.here hx rfl (hb hby d1_21) rfl ((if0 _ _).trans (flt ((not_congr (lw_lt q3 (1 : Int64))).mpr h3)).1) k) ?_
  show OGo p e below s _ _ (T2.setTop (mkF m 24 #[.val (.ref a1), .val (.long q2), .second, .val (.long q3), .second] []))
  refine own_st (fun t k => XS.lloadN X2.here hx rfl (hb hby d1_24) rfl k) ?_
  show OGo p e below s _ _ (T2.setTop (mkF m 25 #[.val (.ref a1), .val (.long q2), .second, .val (.long q3), .second] [(.long q3)]))
  refine own_st (X2.ldc2Long hx hown (mvT hZ (hw _ (List.mem_of_getElem? (i := 16) rfl))) (g := (mkF m 25 #[.val (.ref a1), .val (.long q2), .second, .val (.long q3), .second] [(.long q3)])) rfl (hb hby d1_25)) ?_
  show OGo p e below s _ _ (T2.setTop (mkF m 28 #[.val (.ref a1), .val (.long q2), .second, .val (.long q3), .second] [(.long (999999999 : Int64)), (.long q3)]))
  refine own_st (fun t k => XS.lcmp X2.here hx rfl (hb hby d1_28) rfl k) ?_
  show OGo p e below s _ _ (T2.setTop (mkF m 29 #[.val (.ref a1), .val (.long q2), .second, .val (.long q3), .second] [(.int (lcmpW q3 (999999999 : Int64)))]))
  refine own_st (fun t k => XS.ifYes X2.here hx rfl (pc0 := 29) (pc' := 47) rfl (hb hby d1_29) rfl ((if0 _ _).trans (flt ((not_congr (lw_gt q3 (999999999 : Int64))).mpr h4)).2.2.2) (by decide) (by decide) k) ?_
  show OGo p e below s _ _ (T2.setTop (mkF m 47 #[.val (.ref a1), .val (.long q2), .second, .val (.long q3), .second] []))
  refine own_st (fun t k => XS.aloadN X2.here hx rfl (hb hby d1_47) rfl rfl k) ?_
  show OGo p e below s _ _ (T2.setTop (mkF m 48 #[.val (.ref a1), .val (.long q2), .second, .val (.long q3), .second] [(.ref a1)]))
  refine own_st (fun t k => XS.lloadN X2.here hx rfl (hb hby d1_48) rfl k) ?_
  show OGo p e below s _ _ (T2.setTop (mkF m 49 #[.val (.ref a1), .val (.long q2), .second, .val (.long q3), .second] [(.long q2), (.ref a1)]))
  obtain ⟨T3, hp3, X3, e3, Ww3, st3⟩ := putF X2 hx hZ hown (host := "") (Or.inl (hw _ (List.mem_of_getElem? (i := 17) rfl))) Via.refl e2 F1 E1 (Or.inr ⟨(hw _ (List.mem_of_getElem? (i := 18) rfl)), rfl, hnm⟩) (hw _ (List.mem_of_getElem? (i := 3) rfl)) (ty := .long) (by decide) rfl rfl (g := (mkF m 49 #[.val (.ref a1), .val (.long q2), .second, .val (.long q3), .second] [(.long q2), (.ref a1)])) rfl rfl (hb hby d1_49)
  have Nf3 := Fr.snoc X3 N0 g1
  have Z0 := Nat.le_trans Z0 (Keep.of_wr Ww3).1
  have K0 := K0.wr Ww3 (Or.inl (List.mem_of_getElem? (i := 0) rfl))
  have E1 := E1.wr Ww3
  have F1 := F1.same Ww3
  have F2 := F2.other Ww3 (Or.inr (slot_ne (Or.inr (hw _ (List.mem_of_getElem? (i := 20) rfl))) (Or.inr (hw _ (List.mem_of_getElem? (i := 18) rfl))) (by decide) (t := .long) (t' := .long) (by decide) (by decide)))
  refine own_st st3 ?_
  show OGo p e below s _ _ (T3.setTop (mkF m 52 #[.val (.ref a1), .val (.long q2), .second, .val (.long q3), .second] []))
  refine own_st (fun t k => XS.aloadN X3.here hx rfl (hb hby d1_52) rfl rfl k) ?_
  show OGo p e below s _ _ (T3.setTop (mkF m 53 #[.val (.ref a1), .val (.long q2), .second, .val (.long q3), .second] [(.ref a1)]))
  refine own_st (fun t k => XS.lloadN X3.here hx rfl (hb hby d1_53) rfl k) ?_
  show OGo p e below s _ _ (T3.setTop (mkF m 54 #[.val (.ref a1), .val (.long q2), .second, .val (.long q3), .second] [(.long q3), (.ref a1)]))
  obtain ⟨T4, hp4, X4, e4, Ww4, st4⟩ := putF X3 hx hZ hown (host := "") (Or.inl (hw _ (List.mem_of_getElem? (i := 19) rfl))) Via.refl e3 F2 E1 (Or.inr ⟨(hw _ (List.mem_of_getElem? (i := 20) rfl)), rfl, hnm⟩) (hw _ (List.mem_of_getElem? (i := 3) rfl)) (ty := .long) (by decide) rfl rfl (g := (mkF m 54 #[.val (.ref a1), .val (.long q2), .second, .val (.long q3), .second] [(.long q3), (.ref a1)])) rfl rfl (hb hby d1_54)
  have Nf4 := Fr.snoc X4 Nf3 g1
  have Z0 := Nat.le_trans Z0 (Keep.of_wr Ww4).1
  have K0 := K0.wr Ww4 (Or.inl (List.mem_of_getElem? (i := 0) rfl))
  have E1 := E1.wr Ww4
  have F1 := F1.other Ww4 (Or.inr (slot_ne (Or.inr (hw _ (List.mem_of_getElem? (i := 18) rfl))) (Or.inr (hw _ (List.mem_of_getElem? (i := 20) rfl))) (by decide) (t := .long) (t' := .long) (by decide) (by decide)))
  have F2 := F2.same Ww4
  refine own_st st4 ?_
  show OGo p e below s _ _ (T4.setTop (mkF m 57 #[.val (.ref a1), .val (.long q2), .second, .val (.long q3), .second] []))
  rw [← e4] at K0 E1 F1 F2
  exact own_retV X4 hx hlk hret (hb hby d1_57) (by decide) (by decide) (⟨rfl, Nf4, K0, E1, F1, F2⟩)
theorem ef_4_RJJ (m : MethodId) (x0 : Addr) (x1 : Int64) (x2 : Int64) : entryFrame m #[(.ref x0), (.long x1), (.long x2)] 5 = mkF m 0 #[.val (.ref x0), .val (.long x1), .second, .val (.long x2), .second] [] := by first | (simp [entryFrame, mkF, argsToLocals, Value.category]; done) | rfl
theorem d4_0 : decode prog_39_method_2_code 0 = .ok (.lload_n 3, 1) := by decide +kernel
theorem d4_1 : decode prog_39_method_2_code 1 = .ok (.aload_n 0, 1) := by decide +kernel
theorem d4_2 : decode prog_39_method_2_code 2 = .ok (.getfield 20, 3) := by decide +kernel
theorem d4_5 : decode prog_39_method_2_code 5 = .ok (.lcmp, 1) := by decide +kernel
theorem d4_6 : decode prog_39_method_2_code 6 = .ok (.ifCond .lt 24, 3) := by decide +kernel
theorem d4_30 : decode prog_39_method_2_code 30 = .ok (.iconst 0, 1) := by decide +kernel
theorem d4_31 : decode prog_39_method_2_code 31 = .ok (.ireturn, 1) := by decide +kernel
theorem d4_9 : decode prog_39_method_2_code 9 = .ok (.lload_n 3, 1) := by decide +kernel
theorem d4_10 : decode prog_39_method_2_code 10 = .ok (.lload_n 1, 1) := by decide +kernel
theorem d4_11 : decode prog_39_method_2_code 11 = .ok (.lcmp, 1) := by decide +kernel
theorem d4_12 : decode prog_39_method_2_code 12 = .ok (.ifCond .gt 18, 3) := by decide +kernel
theorem d4_15 : decode prog_39_method_2_code 15 = .ok (.lload_n 1, 1) := by decide +kernel
theorem d4_16 : decode prog_39_method_2_code 16 = .ok (.aload_n 0, 1) := by decide +kernel
theorem d4_17 : decode prog_39_method_2_code 17 = .ok (.getfield 26, 3) := by decide +kernel
theorem d4_20 : decode prog_39_method_2_code 20 = .ok (.lload_n 3, 1) := by decide +kernel
theorem d4_21 : decode prog_39_method_2_code 21 = .ok (.lmul, 1) := by decide +kernel
theorem d4_22 : decode prog_39_method_2_code 22 = .ok (.lcmp, 1) := by decide +kernel
theorem d4_23 : decode prog_39_method_2_code 23 = .ok (.ifCond .gt 7, 3) := by decide +kernel
theorem d4_26 : decode prog_39_method_2_code 26 = .ok (.iconst 1, 1) := by decide +kernel
theorem d4_27 : decode prog_39_method_2_code 27 = .ok (.goto 4, 3) := by decide +kernel
set_option maxRecDepth 65536 in
set_option maxHeartbeats 40000000 in
theorem rm4 (l : Launch) (Z : State) (a0 : Array Value) (hw : ∀ d ∈ tables_1, d.before a0 Z = true) (a1 : Addr) (q2 : Int64) (q3 : Int64) (ms mr : Int64) (r : Int32) (h0 : Heap) (F1 : Fld Z h0 a1 "com/example/kurslot/kurslot/matching/HiddenLimits" "minShow" "J" (.long ms)) (F2 : Fld Z h0 a1 "com/example/kurslot/kurslot/matching/HiddenLimits" "maxRatio" "J" (.long mr)) (hr : OB (decide (¬ q3 < ms ∧ ¬ q2 < q3 ∧ ¬ mr * q3 < q2)) = r) :
    OPure l Z (⟨"com/example/kurslot/kurslot/matching/HiddenLimits", "allows", "(JJ)Z"⟩ : MethodName) prog_39_method_2_code 5 (some .boolean) [] ({ frames := 0, cells := 0, slots := 0, locals := 0 } : Room) #[(.ref a1), (.long q2), (.long q3)] h0 (some (.int r)) := by
  refine own_body (plainFor_of_name pn_com_example_kurslot_kurslot_matching_HiddenLimits) (fun m => ef_4_RJJ m a1 q2 q3) ?_
  intro p e s m below meth c T0 hx hby hml hown hnm hret hlk hZ X0 e0
  have hown : s.vm.findClass "com/example/kurslot/kurslot/matching/HiddenLimits" = some m.cls := hown
  have hml : c.maxLocals = 5 := hml
  show OGo p e below s _ _ (T0.setTop (mkF m 0 #[.val (.ref a1), .val (.long q2), .second, .val (.long q3), .second] []))
  refine own_st (fun t k => XS.lloadN X0.here hx rfl (hb hby d4_0) rfl k) ?_
  show OGo p e below s _ _ (T0.setTop (mkF m 1 #[.val (.ref a1), .val (.long q2), .second, .val (.long q3), .second] [(.long q3)]))
  refine own_st (fun t k => XS.aloadN X0.here hx rfl (hb hby d4_1) rfl rfl k) ?_
  show OGo p e below s _ _ (T0.setTop (mkF m 2 #[.val (.ref a1), .val (.long q2), .second, .val (.long q3), .second] [(.ref a1), (.long q3)]))
  obtain ⟨T5, X5, e5, st5⟩ := getF X0 hx hZ hown (host := "") (Or.inl (hw _ (List.mem_of_getElem? (i := 17) rfl))) Via.refl e0 F1 (g := (mkF m 2 #[.val (.ref a1), .val (.long q2), .second, .val (.long q3), .second] [(.ref a1), (.long q3)])) rfl rfl (hb hby d4_2)
  refine own_st st5 ?_
  show OGo p e below s _ _ (T5.setTop (mkF m 5 #[.val (.ref a1), .val (.long q2), .second, .val (.long q3), .second] [(.long ms), (.long q3)]))
  refine own_st (fun t k => XS.lcmp X5.here hx rfl (hb hby d4_5) rfl k) ?_
  show OGo p e below s _ _ (T5.setTop (mkF m 6 #[.val (.ref a1), .val (.long q2), .second, .val (.long q3), .second] [(.int (lcmpW q3 ms))]))
  by_cases hc6 : q3 < ms
  · refine own_st (fun t k => XS.ifYes X5.here hx rfl (pc0 := 6) (pc' := 30) rfl (hb hby d4_6) rfl ((if0 _ _).trans (tlt ((lw_lt q3 ms).mpr hc6)).1) (by decide) (by decide) k) ?_
    show OGo p e below s _ _ (T5.setTop (mkF m 30 #[.val (.ref a1), .val (.long q2), .second, .val (.long q3), .second] []))
    refine own_st (fun t k => XS.iconst X5.here hx rfl (hb hby d4_30) k) ?_
    show OGo p e below s _ _ (T5.setTop (mkF m 31 #[.val (.ref a1), .val (.long q2), .second, .val (.long q3), .second] [(.int (0 : Int32))]))
    exact own_retN X5 hx hlk (t := .boolean) hret (by simp) (hb hby d4_31) (by decide) (by decide) (⟨by rw [own_b0, ← hr]; simp [OB, hc6], rfl, e5⟩)
  · refine own_st (fun t k => XS.ifNo X5.here hx rfl (hb hby d4_6) rfl ((if0 _ _).trans (flt ((not_congr (lw_lt q3 ms)).mpr hc6)).1) k) ?_
    show OGo p e below s _ _ (T5.setTop (mkF m 9 #[.val (.ref a1), .val (.long q2), .second, .val (.long q3), .second] []))
    refine own_st (fun t k => XS.lloadN X5.here hx rfl (hb hby d4_9) rfl k) ?_
    show OGo p e below s _ _ (T5.setTop (mkF m 10 #[.val (.ref a1), .val (.long q2), .second, .val (.long q3), .second] [(.long q3)]))
    refine own_st (fun t k => XS.lloadN X5.here hx rfl (hb hby d4_10) rfl k) ?_
    show OGo p e below s _ _ (T5.setTop (mkF m 11 #[.val (.ref a1), .val (.long q2), .second, .val (.long q3), .second] [(.long q2), (.long q3)]))
    refine own_st (fun t k => XS.lcmp X5.here hx rfl (hb hby d4_11) rfl k) ?_
    show OGo p e below s _ _ (T5.setTop (mkF m 12 #[.val (.ref a1), .val (.long q2), .second, .val (.long q3), .second] [(.int (lcmpW q3 q2))]))
    by_cases hc12 : q2 < q3
    · refine own_st (fun t k => XS.ifYes X5.here hx rfl (pc0 := 12) (pc' := 30) rfl (hb hby d4_12) rfl ((if0 _ _).trans (tlt ((lw_gt q3 q2).mpr hc12)).2.2.1) (by decide) (by decide) k) ?_
      show OGo p e below s _ _ (T5.setTop (mkF m 30 #[.val (.ref a1), .val (.long q2), .second, .val (.long q3), .second] []))
      refine own_st (fun t k => XS.iconst X5.here hx rfl (hb hby d4_30) k) ?_
      show OGo p e below s _ _ (T5.setTop (mkF m 31 #[.val (.ref a1), .val (.long q2), .second, .val (.long q3), .second] [(.int (0 : Int32))]))
      exact own_retN X5 hx hlk (t := .boolean) hret (by simp) (hb hby d4_31) (by decide) (by decide) (⟨by rw [own_b0, ← hr]; simp [OB, hc6, hc12], rfl, e5⟩)
    · refine own_st (fun t k => XS.ifNo X5.here hx rfl (hb hby d4_12) rfl ((if0 _ _).trans (flt ((not_congr (lw_gt q3 q2)).mpr hc12)).2.2.1) k) ?_
      show OGo p e below s _ _ (T5.setTop (mkF m 15 #[.val (.ref a1), .val (.long q2), .second, .val (.long q3), .second] []))
      refine own_st (fun t k => XS.lloadN X5.here hx rfl (hb hby d4_15) rfl k) ?_
      show OGo p e below s _ _ (T5.setTop (mkF m 16 #[.val (.ref a1), .val (.long q2), .second, .val (.long q3), .second] [(.long q2)]))
      refine own_st (fun t k => XS.aloadN X5.here hx rfl (hb hby d4_16) rfl rfl k) ?_
      show OGo p e below s _ _ (T5.setTop (mkF m 17 #[.val (.ref a1), .val (.long q2), .second, .val (.long q3), .second] [(.ref a1), (.long q2)]))
      obtain ⟨T6, X6, e6, st6⟩ := getF X5 hx hZ hown (host := "") (Or.inl (hw _ (List.mem_of_getElem? (i := 19) rfl))) Via.refl e5 F2 (g := (mkF m 17 #[.val (.ref a1), .val (.long q2), .second, .val (.long q3), .second] [(.ref a1), (.long q2)])) rfl rfl (hb hby d4_17)
      refine own_st st6 ?_
      show OGo p e below s _ _ (T6.setTop (mkF m 20 #[.val (.ref a1), .val (.long q2), .second, .val (.long q3), .second] [(.long mr), (.long q2)]))
      refine own_st (fun t k => XS.lloadN X6.here hx rfl (hb hby d4_20) rfl k) ?_
      show OGo p e below s _ _ (T6.setTop (mkF m 21 #[.val (.ref a1), .val (.long q2), .second, .val (.long q3), .second] [(.long q3), (.long mr), (.long q2)]))
      refine own_st (fun t k => XS.lmul X6.here hx rfl (hb hby d4_21) rfl k) ?_
      show OGo p e below s _ _ (T6.setTop (mkF m 22 #[.val (.ref a1), .val (.long q2), .second, .val (.long q3), .second] [(.long (mr * q3)), (.long q2)]))
      refine own_st (fun t k => XS.lcmp X6.here hx rfl (hb hby d4_22) rfl k) ?_
      show OGo p e below s _ _ (T6.setTop (mkF m 23 #[.val (.ref a1), .val (.long q2), .second, .val (.long q3), .second] [(.int (lcmpW q2 (mr * q3)))]))
      by_cases hc23 : (mr * q3) < q2
      · refine own_st (fun t k => XS.ifYes X6.here hx rfl (pc0 := 23) (pc' := 30) rfl (hb hby d4_23) rfl ((if0 _ _).trans (tlt ((lw_gt q2 (mr * q3)).mpr hc23)).2.2.1) (by decide) (by decide) k) ?_
        show OGo p e below s _ _ (T6.setTop (mkF m 30 #[.val (.ref a1), .val (.long q2), .second, .val (.long q3), .second] []))
        refine own_st (fun t k => XS.iconst X6.here hx rfl (hb hby d4_30) k) ?_
        show OGo p e below s _ _ (T6.setTop (mkF m 31 #[.val (.ref a1), .val (.long q2), .second, .val (.long q3), .second] [(.int (0 : Int32))]))
        exact own_retN X6 hx hlk (t := .boolean) hret (by simp) (hb hby d4_31) (by decide) (by decide) (⟨by rw [own_b0, ← hr]; simp [OB, hc6, hc12, hc23], rfl, e6⟩)
      · refine own_st (fun t k => XS.ifNo X6.here hx rfl (hb hby d4_23) rfl ((if0 _ _).trans (flt ((not_congr (lw_gt q2 (mr * q3))).mpr hc23)).2.2.1) k) ?_
        show OGo p e below s _ _ (T6.setTop (mkF m 26 #[.val (.ref a1), .val (.long q2), .second, .val (.long q3), .second] []))
        refine own_st (fun t k => XS.iconst X6.here hx rfl (hb hby d4_26) k) ?_
        show OGo p e below s _ _ (T6.setTop (mkF m 27 #[.val (.ref a1), .val (.long q2), .second, .val (.long q3), .second] [(.int (1 : Int32))]))
        refine own_st (fun t k => XS.goto X6.here hx rfl (pc0 := 27) (pc' := 31) rfl (hb hby d4_27) (by decide) (by decide) k) ?_
        show OGo p e below s _ _ (T6.setTop (mkF m 31 #[.val (.ref a1), .val (.long q2), .second, .val (.long q3), .second] [(.int (1 : Int32))]))
        exact own_retN X6 hx hlk (t := .boolean) hret (by simp) (hb hby d4_31) (by decide) (by decide) (⟨by rw [own_b1, ← hr]; simp [OB, hc6, hc12, hc23], rfl, e6⟩)
theorem own_m (q : Int64) : ∃ m : Int64, ((q &&& (9223372036854775807 : Int64)) - ((q &&& (9223372036854775807 : Int64)) / (999999999 : Int64)) * (999999999 : Int64)) + (1 : Int64) = m ∧ 1 ≤ m.toInt ∧ m.toInt ≤ 999999999 := by
  refine ⟨_, rfl, ?_⟩
  have h := c_maskL q (9223372036854775807 : Int64) 63 (by decide) (by decide)
  generalize (q &&& (9223372036854775807 : Int64)) = z at *
  have h2 := (c_lrem z 999999999 999999999 (by decide)).1 (by omega)
  have e1 : (1 : Int64).toInt = 1 := by decide
  generalize (z - (z / 999999999) * 999999999) = y at *
  have h3 := c_ladd y 1
  have r := rng64 (y + 1)
  rw [e1] at h3
  omega
theorem own_l1 {x : Int64} (h : 1 ≤ x.toInt) : ¬ x < 1 := by
  have e1 : (1 : Int64).toInt = 1 := by decide
  rw [Int64.lt_iff_toInt_lt, e1]; omega
theorem own_l2 {x : Int64} (h : x.toInt ≤ 999999999) : ¬ (999999999 : Int64) < x := by
  have e1 : (999999999 : Int64).toInt = 999999999 := by decide
  rw [Int64.lt_iff_toInt_lt, e1]; omega
theorem own_nz {x : Int64} (h : x.toInt ≠ 0) : x ≠ 0 := by
  rintro rfl; exact h (by decide)
theorem own_nz1 {x : Int64} (h1 : 1 ≤ x.toInt) (h2 : x.toInt ≤ 999999999) : x + (1 : Int64) ≠ 0 := by
  have e1 : (1 : Int64).toInt = 1 := by decide
  have h3 := c_ladd x 1
  have r := rng64 (x + 1)
  rw [e1] at h3
  exact own_nz (by omega)
theorem own_div {ms mr lots sv : Int64} (a1 : 1 ≤ ms.toInt) (b1 : 1 ≤ mr.toInt) (b2 : mr.toInt ≤ 999999999) (c1 : 1 ≤ lots.toInt) (c2 : lots.toInt ≤ 999999999) (h1 : ¬ sv < ms) (h2 : ¬ lots < sv) : (lots - 1) / sv < mr ↔ ¬ mr * sv < lots := by
  rw [Int64.lt_iff_toInt_lt] at h1 h2
  have e1 : (1 : Int64).toInt = 1 := by decide
  have x1 := c_lsub lots 1
  have r1 := rng64 (lots - 1)
  rw [e1] at x1
  have x2 : (lots - 1).toInt = lots.toInt - 1 := by omega
  have x3 := (c_ldiv (lots - 1) sv sv.toInt rfl (fun q => by
    have : sv.toInt = -1 := by rw [q]; decide
    omega)).1 (by omega)
  have x4 := c_lmul mr sv
  have r2 := rng64 (mr * sv)
  have p0 : 0 ≤ mr.toInt * sv.toInt := Int.mul_nonneg (by omega) (by omega)
  have p1 : mr.toInt * sv.toInt ≤ 999999999 * 999999999 := Int.mul_le_mul b2 (by omega) (by omega) (by omega)
  have x5 : (mr * sv).toInt = mr.toInt * sv.toInt := by omega
  rw [Int64.lt_iff_toInt_lt, Int64.lt_iff_toInt_lt, x3, x2, x5, Int.ediv_lt_iff_lt_mul (by omega)]
  omega
theorem pn_com_example_kurslot_kurslot_matching_HiddenLimitsAllowsPinLaw : plainName "com/example/kurslot/kurslot/matching/HiddenLimitsAllowsPinLaw" = true := by first | (simp [plainName, overriddenIn]; done) | decide +kernel
theorem ef_0_JJJJI (m : MethodId) (x0 : Int64) (x1 : Int64) (x2 : Int64) (x3 : Int64) (x4 : Int32) : entryFrame m #[(.long x0), (.long x1), (.long x2), (.long x3), (.int x4)] maxLocals = mkF m 0 #[.val (.long x0), .second, .val (.long x1), .second, .val (.long x2), .second, .val (.long x3), .second, .val (.int x4), .unset, .unset, .unset, .unset, .unset, .unset, .unset, .unset, .unset, .unset, .unset, .unset, .unset, .unset] [] := by first | (simp [entryFrame, mkF, argsToLocals, Value.category, maxLocals]; done) | rfl
theorem pd_1 : parseMethodDescriptor "(JJ)V" = some ⟨[.long, .long], none⟩ := by decide +kernel
theorem pd_2 : parseMethodDescriptor "(JJ)Z" = some ⟨[.long, .long], some .boolean⟩ := by decide +kernel
set_option maxRecDepth 65536 in
set_option maxHeartbeats 40000000 in
theorem rm0 (l : Launch) (Z : State) (a0 : Array Value) (hw : ∀ d ∈ tables_1, d.before a0 Z = true) (ws : List Jvm.Cond) (q1 : Int64) (q2 : Int64) (q3 : Int64) (q4 : Int64) (q5 : Int32) (h0 : Heap) (n0 : Nat) (Z0 : n0 ≤ h0.size) :
    OMet l Z x code maxLocals ret ws room_1 #[(.long q1), (.long q2), (.long q3), (.long q4), (.int q5)] h0 (OLawQ n0) := by
  refine own_body (plainFor_of_name pn_com_example_kurslot_kurslot_matching_HiddenLimitsAllowsPinLaw) (fun m => ef_0_JJJJI m q1 q2 q3 q4 q5) ?_
  intro p e s m below meth c T0 hx hby hml hown hnm hret hlk hZ X0 e0
  have hown : s.vm.findClass "com/example/kurslot/kurslot/matching/HiddenLimitsAllowsPinLaw" = some m.cls := hown
  have hml : c.maxLocals = 23 := hml
  show OGo p e below s _ _ (T0.setTop (mkF m 0 #[.val (.long q1), .second, .val (.long q2), .second, .val (.long q3), .second, .val (.long q4), .second, .val (.int q5), .unset, .unset, .unset, .unset, .unset, .unset, .unset, .unset, .unset, .unset, .unset, .unset, .unset, .unset] []))
  have N0 := Fr.nil n0
  obtain ⟨ms, e_ms, ms1, ms2⟩ := own_m q1
  refine own_st (X0.ldc2Long hx hown (mvT hZ (hw _ (List.mem_of_getElem? (i := 0) rfl))) (g := (mkF m 0 #[.val (.long q1), .second, .val (.long q2), .second, .val (.long q3), .second, .val (.long q4), .second, .val (.int q5), .unset, .unset, .unset, .unset, .unset, .unset, .unset, .unset, .unset, .unset, .unset, .unset, .unset, .unset] [])) rfl (hb hby at_0)) ?_
  show OGo p e below s room_1 (OLawQ n0) (T0.setTop (mkF m 3 #[.val (.long q1), .second, .val (.long q2), .second, .val (.long q3), .second, .val (.long q4), .second, .val (.int q5), .unset, .unset, .unset, .unset, .unset, .unset, .unset, .unset, .unset, .unset, .unset, .unset, .unset, .unset] [(.long (999999999 : Int64))]))
  refine own_st (fun t k => XS.lstore X0.here hx rfl (hb hby at_3) rfl (l' := #[.val (.long q1), .second, .val (.long q2), .second, .val (.long q3), .second, .val (.long q4), .second, .val (.int q5), .val (.long (999999999 : Int64)), .second, .unset, .unset, .unset, .unset, .unset, .unset, .unset, .unset, .unset, .unset, .unset, .unset]) rfl k) ?_
  show OGo p e below s room_1 (OLawQ n0) (T0.setTop (mkF m 5 #[.val (.long q1), .second, .val (.long q2), .second, .val (.long q3), .second, .val (.long q4), .second, .val (.int q5), .val (.long (999999999 : Int64)), .second, .unset, .unset, .unset, .unset, .unset, .unset, .unset, .unset, .unset, .unset, .unset, .unset] []))
  refine own_st (fun t k => XS.lloadN X0.here hx rfl (hb hby at_5) rfl k) ?_
  show OGo p e below s room_1 (OLawQ n0) (T0.setTop (mkF m 6 #[.val (.long q1), .second, .val (.long q2), .second, .val (.long q3), .second, .val (.long q4), .second, .val (.int q5), .val (.long (999999999 : Int64)), .second, .unset, .unset, .unset, .unset, .unset, .unset, .unset, .unset, .unset, .unset, .unset, .unset] [(.long q1)]))
  refine own_st (X0.ldc2Long hx hown (mvT hZ (hw _ (List.mem_of_getElem? (i := 1) rfl))) (g := (mkF m 6 #[.val (.long q1), .second, .val (.long q2), .second, .val (.long q3), .second, .val (.long q4), .second, .val (.int q5), .val (.long (999999999 : Int64)), .second, .unset, .unset, .unset, .unset, .unset, .unset, .unset, .unset, .unset, .unset, .unset, .unset] [(.long q1)])) rfl (hb hby at_6)) ?_
  show OGo p e below s room_1 (OLawQ n0) (T0.setTop (mkF m 9 #[.val (.long q1), .second, .val (.long q2), .second, .val (.long q3), .second, .val (.long q4), .second, .val (.int q5), .val (.long (999999999 : Int64)), .second, .unset, .unset, .unset, .unset, .unset, .unset, .unset, .unset, .unset, .unset, .unset, .unset] [(.long (9223372036854775807 : Int64)), (.long q1)]))
  refine own_st (fun t k => XS.land X0.here hx rfl (hb hby at_9) rfl k) ?_
  show OGo p e below s room_1 (OLawQ n0) (T0.setTop (mkF m 10 #[.val (.long q1), .second, .val (.long q2), .second, .val (.long q3), .second, .val (.long q4), .second, .val (.int q5), .val (.long (999999999 : Int64)), .second, .unset, .unset, .unset, .unset, .unset, .unset, .unset, .unset, .unset, .unset, .unset, .unset] [(.long (q1 &&& (9223372036854775807 : Int64)))]))
  refine own_st (fun t k => XS.lload X0.here hx rfl (hb hby at_10) rfl k) ?_
  show OGo p e below s room_1 (OLawQ n0) (T0.setTop (mkF m 12 #[.val (.long q1), .second, .val (.long q2), .second, .val (.long q3), .second, .val (.long q4), .second, .val (.int q5), .val (.long (999999999 : Int64)), .second, .unset, .unset, .unset, .unset, .unset, .unset, .unset, .unset, .unset, .unset, .unset, .unset] [(.long (999999999 : Int64)), (.long (q1 &&& (9223372036854775807 : Int64)))]))
  refine own_st (fun t k => XS.lrem X0.here hx rfl (hb hby at_12) rfl (by decide) k) ?_
  show OGo p e below s room_1 (OLawQ n0) (T0.setTop (mkF m 13 #[.val (.long q1), .second, .val (.long q2), .second, .val (.long q3), .second, .val (.long q4), .second, .val (.int q5), .val (.long (999999999 : Int64)), .second, .unset, .unset, .unset, .unset, .unset, .unset, .unset, .unset, .unset, .unset, .unset, .unset] [(.long ((q1 &&& (9223372036854775807 : Int64)) - ((q1 &&& (9223372036854775807 : Int64)) / (999999999 : Int64)) * (999999999 : Int64)))]))
  refine own_st (fun t k => XS.lconst X0.here hx rfl (hb hby at_13) k) ?_
  show OGo p e below s room_1 (OLawQ n0) (T0.setTop (mkF m 14 #[.val (.long q1), .second, .val (.long q2), .second, .val (.long q3), .second, .val (.long q4), .second, .val (.int q5), .val (.long (999999999 : Int64)), .second, .unset, .unset, .unset, .unset, .unset, .unset, .unset, .unset, .unset, .unset, .unset, .unset] [(.long (1 : Int64)), (.long ((q1 &&& (9223372036854775807 : Int64)) - ((q1 &&& (9223372036854775807 : Int64)) / (999999999 : Int64)) * (999999999 : Int64)))]))
  refine own_st (fun t k => XS.ladd X0.here hx rfl (hb hby at_14) rfl k) ?_
  show OGo p e below s room_1 (OLawQ n0) (T0.setTop (mkF m 15 #[.val (.long q1), .second, .val (.long q2), .second, .val (.long q3), .second, .val (.long q4), .second, .val (.int q5), .val (.long (999999999 : Int64)), .second, .unset, .unset, .unset, .unset, .unset, .unset, .unset, .unset, .unset, .unset, .unset, .unset] [(.long (((q1 &&& (9223372036854775807 : Int64)) - ((q1 &&& (9223372036854775807 : Int64)) / (999999999 : Int64)) * (999999999 : Int64)) + (1 : Int64)))]))
  rw [e_ms]
  obtain ⟨mr, e_mr, mr1, mr2⟩ := own_m q2
  refine own_st (fun t k => XS.lstore X0.here hx rfl (hb hby at_15) rfl (l' := #[.val (.long q1), .second, .val (.long q2), .second, .val (.long q3), .second, .val (.long q4), .second, .val (.int q5), .val (.long (999999999 : Int64)), .second, .val (.long ms), .second, .unset, .unset, .unset, .unset, .unset, .unset, .unset, .unset, .unset, .unset]) rfl k) ?_
  show OGo p e below s room_1 (OLawQ n0) (T0.setTop (mkF m 17 #[.val (.long q1), .second, .val (.long q2), .second, .val (.long q3), .second, .val (.long q4), .second, .val (.int q5), .val (.long (999999999 : Int64)), .second, .val (.long ms), .second, .unset, .unset, .unset, .unset, .unset, .unset, .unset, .unset, .unset, .unset] []))
  refine own_st (fun t k => XS.lloadN X0.here hx rfl (hb hby at_17) rfl k) ?_
  show OGo p e below s room_1 (OLawQ n0) (T0.setTop (mkF m 18 #[.val (.long q1), .second, .val (.long q2), .second, .val (.long q3), .second, .val (.long q4), .second, .val (.int q5), .val (.long (999999999 : Int64)), .second, .val (.long ms), .second, .unset, .unset, .unset, .unset, .unset, .unset, .unset, .unset, .unset, .unset] [(.long q2)]))
  refine own_st (X0.ldc2Long hx hown (mvT hZ (hw _ (List.mem_of_getElem? (i := 1) rfl))) (g := (mkF m 18 #[.val (.long q1), .second, .val (.long q2), .second, .val (.long q3), .second, .val (.long q4), .second, .val (.int q5), .val (.long (999999999 : Int64)), .second, .val (.long ms), .second, .unset, .unset, .unset, .unset, .unset, .unset, .unset, .unset, .unset, .unset] [(.long q2)])) rfl (hb hby at_18)) ?_
  show OGo p e below s room_1 (OLawQ n0) (T0.setTop (mkF m 21 #[.val (.long q1), .second, .val (.long q2), .second, .val (.long q3), .second, .val (.long q4), .second, .val (.int q5), .val (.long (999999999 : Int64)), .second, .val (.long ms), .second, .unset, .unset, .unset, .unset, .unset, .unset, .unset, .unset, .unset, .unset] [(.long (9223372036854775807 : Int64)), (.long q2)]))
  refine own_st (fun t k => XS.land X0.here hx rfl (hb hby at_21) rfl k) ?_
  show OGo p e below s room_1 (OLawQ n0) (T0.setTop (mkF m 22 #[.val (.long q1), .second, .val (.long q2), .second, .val (.long q3), .second, .val (.long q4), .second, .val (.int q5), .val (.long (999999999 : Int64)), .second, .val (.long ms), .second, .unset, .unset, .unset, .unset, .unset, .unset, .unset, .unset, .unset, .unset] [(.long (q2 &&& (9223372036854775807 : Int64)))]))
  refine own_st (fun t k => XS.lload X0.here hx rfl (hb hby at_22) rfl k) ?_
  show OGo p e below s room_1 (OLawQ n0) (T0.setTop (mkF m 24 #[.val (.long q1), .second, .val (.long q2), .second, .val (.long q3), .second, .val (.long q4), .second, .val (.int q5), .val (.long (999999999 : Int64)), .second, .val (.long ms), .second, .unset, .unset, .unset, .unset, .unset, .unset, .unset, .unset, .unset, .unset] [(.long (999999999 : Int64)), (.long (q2 &&& (9223372036854775807 : Int64)))]))
  refine own_st (fun t k => XS.lrem X0.here hx rfl (hb hby at_24) rfl (by decide) k) ?_
  show OGo p e below s room_1 (OLawQ n0) (T0.setTop (mkF m 25 #[.val (.long q1), .second, .val (.long q2), .second, .val (.long q3), .second, .val (.long q4), .second, .val (.int q5), .val (.long (999999999 : Int64)), .second, .val (.long ms), .second, .unset, .unset, .unset, .unset, .unset, .unset, .unset, .unset, .unset, .unset] [(.long ((q2 &&& (9223372036854775807 : Int64)) - ((q2 &&& (9223372036854775807 : Int64)) / (999999999 : Int64)) * (999999999 : Int64)))]))
  refine own_st (fun t k => XS.lconst X0.here hx rfl (hb hby at_25) k) ?_
  show OGo p e below s room_1 (OLawQ n0) (T0.setTop (mkF m 26 #[.val (.long q1), .second, .val (.long q2), .second, .val (.long q3), .second, .val (.long q4), .second, .val (.int q5), .val (.long (999999999 : Int64)), .second, .val (.long ms), .second, .unset, .unset, .unset, .unset, .unset, .unset, .unset, .unset, .unset, .unset] [(.long (1 : Int64)), (.long ((q2 &&& (9223372036854775807 : Int64)) - ((q2 &&& (9223372036854775807 : Int64)) / (999999999 : Int64)) * (999999999 : Int64)))]))
  refine own_st (fun t k => XS.ladd X0.here hx rfl (hb hby at_26) rfl k) ?_
  show OGo p e below s room_1 (OLawQ n0) (T0.setTop (mkF m 27 #[.val (.long q1), .second, .val (.long q2), .second, .val (.long q3), .second, .val (.long q4), .second, .val (.int q5), .val (.long (999999999 : Int64)), .second, .val (.long ms), .second, .unset, .unset, .unset, .unset, .unset, .unset, .unset, .unset, .unset, .unset] [(.long (((q2 &&& (9223372036854775807 : Int64)) - ((q2 &&& (9223372036854775807 : Int64)) / (999999999 : Int64)) * (999999999 : Int64)) + (1 : Int64)))]))
  rw [e_mr]
  obtain ⟨lots, e_lots, lots1, lots2⟩ := own_m q3
  refine own_st (fun t k => XS.lstore X0.here hx rfl (hb hby at_27) rfl (l' := #[.val (.long q1), .second, .val (.long q2), .second, .val (.long q3), .second, .val (.long q4), .second, .val (.int q5), .val (.long (999999999 : Int64)), .second, .val (.long ms), .second, .val (.long mr), .second, .unset, .unset, .unset, .unset, .unset, .unset, .unset, .unset]) rfl k) ?_
  show OGo p e below s room_1 (OLawQ n0) (T0.setTop (mkF m 29 #[.val (.long q1), .second, .val (.long q2), .second, .val (.long q3), .second, .val (.long q4), .second, .val (.int q5), .val (.long (999999999 : Int64)), .second, .val (.long ms), .second, .val (.long mr), .second, .unset, .unset, .unset, .unset, .unset, .unset, .unset, .unset] []))
  refine own_st (fun t k => XS.lload X0.here hx rfl (hb hby at_29) rfl k) ?_
  show OGo p e below s room_1 (OLawQ n0) (T0.setTop (mkF m 31 #[.val (.long q1), .second, .val (.long q2), .second, .val (.long q3), .second, .val (.long q4), .second, .val (.int q5), .val (.long (999999999 : Int64)), .second, .val (.long ms), .second, .val (.long mr), .second, .unset, .unset, .unset, .unset, .unset, .unset, .unset, .unset] [(.long q3)]))
  refine own_st (X0.ldc2Long hx hown (mvT hZ (hw _ (List.mem_of_getElem? (i := 1) rfl))) (g := (mkF m 31 #[.val (.long q1), .second, .val (.long q2), .second, .val (.long q3), .second, .val (.long q4), .second, .val (.int q5), .val (.long (999999999 : Int64)), .second, .val (.long ms), .second, .val (.long mr), .second, .unset, .unset, .unset, .unset, .unset, .unset, .unset, .unset] [(.long q3)])) rfl (hb hby at_31)) ?_
  show OGo p e below s room_1 (OLawQ n0) (T0.setTop (mkF m 34 #[.val (.long q1), .second, .val (.long q2), .second, .val (.long q3), .second, .val (.long q4), .second, .val (.int q5), .val (.long (999999999 : Int64)), .second, .val (.long ms), .second, .val (.long mr), .second, .unset, .unset, .unset, .unset, .unset, .unset, .unset, .unset] [(.long (9223372036854775807 : Int64)), (.long q3)]))
  refine own_st (fun t k => XS.land X0.here hx rfl (hb hby at_34) rfl k) ?_
  show OGo p e below s room_1 (OLawQ n0) (T0.setTop (mkF m 35 #[.val (.long q1), .second, .val (.long q2), .second, .val (.long q3), .second, .val (.long q4), .second, .val (.int q5), .val (.long (999999999 : Int64)), .second, .val (.long ms), .second, .val (.long mr), .second, .unset, .unset, .unset, .unset, .unset, .unset, .unset, .unset] [(.long (q3 &&& (9223372036854775807 : Int64)))]))
  refine own_st (fun t k => XS.lload X0.here hx rfl (hb hby at_35) rfl k) ?_
  show OGo p e below s room_1 (OLawQ n0) (T0.setTop (mkF m 37 #[.val (.long q1), .second, .val (.long q2), .second, .val (.long q3), .second, .val (.long q4), .second, .val (.int q5), .val (.long (999999999 : Int64)), .second, .val (.long ms), .second, .val (.long mr), .second, .unset, .unset, .unset, .unset, .unset, .unset, .unset, .unset] [(.long (999999999 : Int64)), (.long (q3 &&& (9223372036854775807 : Int64)))]))
  refine own_st (fun t k => XS.lrem X0.here hx rfl (hb hby at_37) rfl (by decide) k) ?_
  show OGo p e below s room_1 (OLawQ n0) (T0.setTop (mkF m 38 #[.val (.long q1), .second, .val (.long q2), .second, .val (.long q3), .second, .val (.long q4), .second, .val (.int q5), .val (.long (999999999 : Int64)), .second, .val (.long ms), .second, .val (.long mr), .second, .unset, .unset, .unset, .unset, .unset, .unset, .unset, .unset] [(.long ((q3 &&& (9223372036854775807 : Int64)) - ((q3 &&& (9223372036854775807 : Int64)) / (999999999 : Int64)) * (999999999 : Int64)))]))
  refine own_st (fun t k => XS.lconst X0.here hx rfl (hb hby at_38) k) ?_
  show OGo p e below s room_1 (OLawQ n0) (T0.setTop (mkF m 39 #[.val (.long q1), .second, .val (.long q2), .second, .val (.long q3), .second, .val (.long q4), .second, .val (.int q5), .val (.long (999999999 : Int64)), .second, .val (.long ms), .second, .val (.long mr), .second, .unset, .unset, .unset, .unset, .unset, .unset, .unset, .unset] [(.long (1 : Int64)), (.long ((q3 &&& (9223372036854775807 : Int64)) - ((q3 &&& (9223372036854775807 : Int64)) / (999999999 : Int64)) * (999999999 : Int64)))]))
  refine own_st (fun t k => XS.ladd X0.here hx rfl (hb hby at_39) rfl k) ?_
  show OGo p e below s room_1 (OLawQ n0) (T0.setTop (mkF m 40 #[.val (.long q1), .second, .val (.long q2), .second, .val (.long q3), .second, .val (.long q4), .second, .val (.int q5), .val (.long (999999999 : Int64)), .second, .val (.long ms), .second, .val (.long mr), .second, .unset, .unset, .unset, .unset, .unset, .unset, .unset, .unset] [(.long (((q3 &&& (9223372036854775807 : Int64)) - ((q3 &&& (9223372036854775807 : Int64)) / (999999999 : Int64)) * (999999999 : Int64)) + (1 : Int64)))]))
  rw [e_lots]
  refine own_st (fun t k => XS.lstore X0.here hx rfl (hb hby at_40) rfl (l' := #[.val (.long q1), .second, .val (.long q2), .second, .val (.long q3), .second, .val (.long q4), .second, .val (.int q5), .val (.long (999999999 : Int64)), .second, .val (.long ms), .second, .val (.long mr), .second, .val (.long lots), .second, .unset, .unset, .unset, .unset, .unset, .unset]) rfl k) ?_
  show OGo p e below s room_1 (OLawQ n0) (T0.setTop (mkF m 42 #[.val (.long q1), .second, .val (.long q2), .second, .val (.long q3), .second, .val (.long q4), .second, .val (.int q5), .val (.long (999999999 : Int64)), .second, .val (.long ms), .second, .val (.long mr), .second, .val (.long lots), .second, .unset, .unset, .unset, .unset, .unset, .unset] []))
  refine own_st (fun t k => XS.lload X0.here hx rfl (hb hby at_42) rfl k) ?_
  show OGo p e below s room_1 (OLawQ n0) (T0.setTop (mkF m 44 #[.val (.long q1), .second, .val (.long q2), .second, .val (.long q3), .second, .val (.long q4), .second, .val (.int q5), .val (.long (999999999 : Int64)), .second, .val (.long ms), .second, .val (.long mr), .second, .val (.long lots), .second, .unset, .unset, .unset, .unset, .unset, .unset] [(.long q4)]))
  refine own_st (X0.ldc2Long hx hown (mvT hZ (hw _ (List.mem_of_getElem? (i := 1) rfl))) (g := (mkF m 44 #[.val (.long q1), .second, .val (.long q2), .second, .val (.long q3), .second, .val (.long q4), .second, .val (.int q5), .val (.long (999999999 : Int64)), .second, .val (.long ms), .second, .val (.long mr), .second, .val (.long lots), .second, .unset, .unset, .unset, .unset, .unset, .unset] [(.long q4)])) rfl (hb hby at_44)) ?_
  show OGo p e below s room_1 (OLawQ n0) (T0.setTop (mkF m 47 #[.val (.long q1), .second, .val (.long q2), .second, .val (.long q3), .second, .val (.long q4), .second, .val (.int q5), .val (.long (999999999 : Int64)), .second, .val (.long ms), .second, .val (.long mr), .second, .val (.long lots), .second, .unset, .unset, .unset, .unset, .unset, .unset] [(.long (9223372036854775807 : Int64)), (.long q4)]))
  refine own_st (fun t k => XS.land X0.here hx rfl (hb hby at_47) rfl k) ?_
  show OGo p e below s room_1 (OLawQ n0) (T0.setTop (mkF m 48 #[.val (.long q1), .second, .val (.long q2), .second, .val (.long q3), .second, .val (.long q4), .second, .val (.int q5), .val (.long (999999999 : Int64)), .second, .val (.long ms), .second, .val (.long mr), .second, .val (.long lots), .second, .unset, .unset, .unset, .unset, .unset, .unset] [(.long (q4 &&& (9223372036854775807 : Int64)))]))
  refine own_st (fun t k => XS.lstore X0.here hx rfl (hb hby at_48) rfl (l' := #[.val (.long q1), .second, .val (.long q2), .second, .val (.long q3), .second, .val (.long q4), .second, .val (.int q5), .val (.long (999999999 : Int64)), .second, .val (.long ms), .second, .val (.long mr), .second, .val (.long lots), .second, .val (.long (q4 &&& (9223372036854775807 : Int64))), .second, .unset, .unset, .unset, .unset]) rfl k) ?_
  show OGo p e below s room_1 (OLawQ n0) (T0.setTop (mkF m 50 #[.val (.long q1), .second, .val (.long q2), .second, .val (.long q3), .second, .val (.long q4), .second, .val (.int q5), .val (.long (999999999 : Int64)), .second, .val (.long ms), .second, .val (.long mr), .second, .val (.long lots), .second, .val (.long (q4 &&& (9223372036854775807 : Int64))), .second, .unset, .unset, .unset, .unset] []))
  obtain ⟨whole, hwh⟩ : ∃ z, z = (q4 &&& (9223372036854775807 : Int64)) := ⟨_, rfl⟩
  rw [← hwh]
  have J69 : ∀ sv : Int64, OGo p e below s room_1 (OLawQ n0) (T0.setTop (mkF m 69 #[.val (.long q1), .second, .val (.long q2), .second, .val (.long q3), .second, .val (.long q4), .second, .val (.int q5), .val (.long (999999999 : Int64)), .second, .val (.long ms), .second, .val (.long mr), .second, .val (.long lots), .second, .val (.long whole), .second, .unset, .unset, .unset, .unset] [(.long sv)])) := by
    intro sv
    show OGo p e below s room_1 (OLawQ n0) (T0.setTop (mkF m 69 #[.val (.long q1), .second, .val (.long q2), .second, .val (.long q3), .second, .val (.long q4), .second, .val (.int q5), .val (.long (999999999 : Int64)), .second, .val (.long ms), .second, .val (.long mr), .second, .val (.long lots), .second, .val (.long whole), .second, .unset, .unset, .unset, .unset] [(.long sv)]))
    refine own_st (fun t k => XS.lstore X0.here hx rfl (hb hby at_69) rfl (l' := #[.val (.long q1), .second, .val (.long q2), .second, .val (.long q3), .second, .val (.long q4), .second, .val (.int q5), .val (.long (999999999 : Int64)), .second, .val (.long ms), .second, .val (.long mr), .second, .val (.long lots), .second, .val (.long whole), .second, .val (.long sv), .second, .unset, .unset]) rfl k) ?_
    show OGo p e below s room_1 (OLawQ n0) (T0.setTop (mkF m 71 #[.val (.long q1), .second, .val (.long q2), .second, .val (.long q3), .second, .val (.long q4), .second, .val (.int q5), .val (.long (999999999 : Int64)), .second, .val (.long ms), .second, .val (.long mr), .second, .val (.long lots), .second, .val (.long whole), .second, .val (.long sv), .second, .unset, .unset] []))
    obtain ⟨T7, hp7, X7, e7, Ex7, Aa7, Dd7, -, st7⟩ := newO X0 hx hZ hown (hw _ (List.mem_of_getElem? (i := 2) rfl)) (hw _ (List.mem_of_getElem? (i := 3) rfl)) (hw _ (List.mem_of_getElem? (i := 4) rfl)) e0 (g := (mkF m 71 #[.val (.long q1), .second, .val (.long q2), .second, .val (.long q3), .second, .val (.long q4), .second, .val (.int q5), .val (.long (999999999 : Int64)), .second, .val (.long ms), .second, .val (.long mr), .second, .val (.long lots), .second, .val (.long whole), .second, .val (.long sv), .second, .unset, .unset] [])) rfl (hb hby at_71) (by decide) (by decide)
    obtain ⟨b1, gs7⟩ : ∃ z, z = h0.size := ⟨_, rfl⟩
    rw [← gs7] at Aa7 Dd7 st7
    have old_b1 : n0 ≤ b1 := Nat.le_trans Z0 (Nat.le_of_eq gs7.symm)
    have Z0 := Nat.le_trans Z0 Ex7.1
    have E_b1 := Aa7
    have F_minShow_b1 : Fld Z hp7 b1 "com/example/kurslot/kurslot/matching/HiddenLimits" "minShow" "J" (.long (0 : Int64)) := Dd7 (Or.inr (hw _ (List.mem_of_getElem? (i := 18) rfl))) (ty := .long) (by decide)
    have F_maxRatio_b1 : Fld Z hp7 b1 "com/example/kurslot/kurslot/matching/HiddenLimits" "maxRatio" "J" (.long (0 : Int64)) := Dd7 (Or.inr (hw _ (List.mem_of_getElem? (i := 20) rfl))) (ty := .long) (by decide)
    refine own_st st7 ?_
    show OGo p e below s room_1 (OLawQ n0) (T7.setTop (mkF m 74 #[.val (.long q1), .second, .val (.long q2), .second, .val (.long q3), .second, .val (.long q4), .second, .val (.int q5), .val (.long (999999999 : Int64)), .second, .val (.long ms), .second, .val (.long mr), .second, .val (.long lots), .second, .val (.long whole), .second, .val (.long sv), .second, .unset, .unset] [(.ref b1)]))
    refine own_st (fun t k => XS.dup X7.here hx rfl (hb hby at_74) rfl rfl k) ?_
    show OGo p e below s room_1 (OLawQ n0) (T7.setTop (mkF m 75 #[.val (.long q1), .second, .val (.long q2), .second, .val (.long q3), .second, .val (.long q4), .second, .val (.int q5), .val (.long (999999999 : Int64)), .second, .val (.long ms), .second, .val (.long mr), .second, .val (.long lots), .second, .val (.long whole), .second, .val (.long sv), .second, .unset, .unset] [(.ref b1), (.ref b1)]))
    refine own_st (fun t k => XS.lload X7.here hx rfl (hb hby at_75) rfl k) ?_
    show OGo p e below s room_1 (OLawQ n0) (T7.setTop (mkF m 77 #[.val (.long q1), .second, .val (.long q2), .second, .val (.long q3), .second, .val (.long q4), .second, .val (.int q5), .val (.long (999999999 : Int64)), .second, .val (.long ms), .second, .val (.long mr), .second, .val (.long lots), .second, .val (.long whole), .second, .val (.long sv), .second, .unset, .unset] [(.long ms), (.ref b1), (.ref b1)]))
    refine own_st (fun t k => XS.lload X7.here hx rfl (hb hby at_77) rfl k) ?_
    show OGo p e below s room_1 (OLawQ n0) (T7.setTop (mkF m 79 #[.val (.long q1), .second, .val (.long q2), .second, .val (.long q3), .second, .val (.long q4), .second, .val (.int q5), .val (.long (999999999 : Int64)), .second, .val (.long ms), .second, .val (.long mr), .second, .val (.long lots), .second, .val (.long whole), .second, .val (.long sv), .second, .unset, .unset] [(.long mr), (.long ms), (.ref b1), (.ref b1)]))
    obtain ⟨_, T8, Lc8, X8, hQ8, st8⟩ := own_callI X7 hx hZ (y := (⟨"com/example/kurslot/kurslot/matching/HiddenLimits", "<init>", "(JJ)V"⟩ : MethodName)) (W := 1) rfl hown (hw _ (List.mem_of_getElem? (i := 5) rfl)) (hw _ (List.mem_of_getElem? (i := 6) rfl)) (hw _ (List.mem_of_getElem? (i := 7) rfl)) (hw _ (List.mem_of_getElem? (i := 4) rfl)) (by decide) (rm1 l Z a0 hw b1 ms mr hp7 n0 Z0 old_b1 E_b1 F_minShow_b1 F_maxRatio_b1 (own_l1 ms1) (own_l2 ms2) (own_l1 mr1) (own_l2 mr2)) (by decide) (by decide) (a := b1) (g := (mkF m 79 #[.val (.long q1), .second, .val (.long q2), .second, .val (.long q3), .second, .val (.long q4), .second, .val (.int q5), .val (.long (999999999 : Int64)), .second, .val (.long ms), .second, .val (.long mr), .second, .val (.long lots), .second, .val (.long whole), .second, .val (.long sv), .second, .unset, .unset] [(.long mr), (.long ms), (.ref b1), (.ref b1)])) rfl (by rw [hml]; rfl) (argsL := [(.long ms), (.long mr)]) (rest := [(.ref b1)]) (lenOf pd_1 rfl) rfl (by show 2 * 0 + _ ≤ _; exact Nat.le_of_eq rfl) (hb hby at_79) rfl e7 (by decide) (by decide)
    obtain ⟨rfl, Nq, Kq, E_b1, F1, F2⟩ := hQ8
    have N1 := Fr.app N0 Nq
    refine own_st st8 ?_
    show OGo p e below s room_1 (OLawQ n0) (T8.setTop (mkF m 82 #[.val (.long q1), .second, .val (.long q2), .second, .val (.long q3), .second, .val (.long q4), .second, .val (.int q5), .val (.long (999999999 : Int64)), .second, .val (.long ms), .second, .val (.long mr), .second, .val (.long lots), .second, .val (.long whole), .second, .val (.long sv), .second, .unset, .unset] [(.ref b1)]))
    refine own_st (fun t k => XS.astore X8.here hx rfl (hb hby at_82) rfl rfl (l' := #[.val (.long q1), .second, .val (.long q2), .second, .val (.long q3), .second, .val (.long q4), .second, .val (.int q5), .val (.long (999999999 : Int64)), .second, .val (.long ms), .second, .val (.long mr), .second, .val (.long lots), .second, .val (.long whole), .second, .val (.long sv), .second, .val (.ref b1), .unset]) rfl k) ?_
    show OGo p e below s room_1 (OLawQ n0) (T8.setTop (mkF m 84 #[.val (.long q1), .second, .val (.long q2), .second, .val (.long q3), .second, .val (.long q4), .second, .val (.int q5), .val (.long (999999999 : Int64)), .second, .val (.long ms), .second, .val (.long mr), .second, .val (.long lots), .second, .val (.long whole), .second, .val (.long sv), .second, .val (.ref b1), .unset] []))
    refine own_st (fun t k => XS.lload X8.here hx rfl (hb hby at_84) rfl k) ?_
    show OGo p e below s room_1 (OLawQ n0) (T8.setTop (mkF m 86 #[.val (.long q1), .second, .val (.long q2), .second, .val (.long q3), .second, .val (.long q4), .second, .val (.int q5), .val (.long (999999999 : Int64)), .second, .val (.long ms), .second, .val (.long mr), .second, .val (.long lots), .second, .val (.long whole), .second, .val (.long sv), .second, .val (.ref b1), .unset] [(.long sv)]))
    refine own_st (fun t k => XS.lload X8.here hx rfl (hb hby at_86) rfl k) ?_
    show OGo p e below s room_1 (OLawQ n0) (T8.setTop (mkF m 88 #[.val (.long q1), .second, .val (.long q2), .second, .val (.long q3), .second, .val (.long q4), .second, .val (.int q5), .val (.long (999999999 : Int64)), .second, .val (.long ms), .second, .val (.long mr), .second, .val (.long lots), .second, .val (.long whole), .second, .val (.long sv), .second, .val (.ref b1), .unset] [(.long ms), (.long sv)]))
    refine own_st (fun t k => XS.lcmp X8.here hx rfl (hb hby at_88) rfl k) ?_
    show OGo p e below s room_1 (OLawQ n0) (T8.setTop (mkF m 89 #[.val (.long q1), .second, .val (.long q2), .second, .val (.long q3), .second, .val (.long q4), .second, .val (.int q5), .val (.long (999999999 : Int64)), .second, .val (.long ms), .second, .val (.long mr), .second, .val (.long lots), .second, .val (.long whole), .second, .val (.long sv), .second, .val (.ref b1), .unset] [(.int (lcmpW sv ms))]))
    by_cases hc89 : sv < ms
    · refine own_st (fun t k => XS.ifNo X8.here hx rfl (hb hby at_89) rfl ((if0 _ _).trans (tlt ((lw_lt sv ms).mpr hc89)).2.1) k) ?_
      show OGo p e below s room_1 (OLawQ n0) (T8.setTop (mkF m 92 #[.val (.long q1), .second, .val (.long q2), .second, .val (.long q3), .second, .val (.long q4), .second, .val (.int q5), .val (.long (999999999 : Int64)), .second, .val (.long ms), .second, .val (.long mr), .second, .val (.long lots), .second, .val (.long whole), .second, .val (.long sv), .second, .val (.ref b1), .unset] []))
      refine own_st (fun t k => XS.iconst X8.here hx rfl (hb hby at_92) k) ?_
      show OGo p e below s room_1 (OLawQ n0) (T8.setTop (mkF m 93 #[.val (.long q1), .second, .val (.long q2), .second, .val (.long q3), .second, .val (.long q4), .second, .val (.int q5), .val (.long (999999999 : Int64)), .second, .val (.long ms), .second, .val (.long mr), .second, .val (.long lots), .second, .val (.long whole), .second, .val (.long sv), .second, .val (.ref b1), .unset] [(.int (0 : Int32))]))
      refine own_st (fun t k => XS.istore X8.here hx rfl (hb hby at_93) rfl (l' := #[.val (.long q1), .second, .val (.long q2), .second, .val (.long q3), .second, .val (.long q4), .second, .val (.int q5), .val (.long (999999999 : Int64)), .second, .val (.long ms), .second, .val (.long mr), .second, .val (.long lots), .second, .val (.long whole), .second, .val (.long sv), .second, .val (.ref b1), .val (.int (0 : Int32))]) rfl k) ?_
      show OGo p e below s room_1 (OLawQ n0) (T8.setTop (mkF m 95 #[.val (.long q1), .second, .val (.long q2), .second, .val (.long q3), .second, .val (.long q4), .second, .val (.int q5), .val (.long (999999999 : Int64)), .second, .val (.long ms), .second, .val (.long mr), .second, .val (.long lots), .second, .val (.long whole), .second, .val (.long sv), .second, .val (.ref b1), .val (.int (0 : Int32))] []))
      refine own_st (fun t k => XS.goto X8.here hx rfl (pc0 := 95) (pc' := 132) rfl (hb hby at_95) (by decide) (by decide) k) ?_
      show OGo p e below s room_1 (OLawQ n0) (T8.setTop (mkF m 132 #[.val (.long q1), .second, .val (.long q2), .second, .val (.long q3), .second, .val (.long q4), .second, .val (.int q5), .val (.long (999999999 : Int64)), .second, .val (.long ms), .second, .val (.long mr), .second, .val (.long lots), .second, .val (.long whole), .second, .val (.long sv), .second, .val (.ref b1), .val (.int (0 : Int32))] []))
      refine own_st (fun t k => XS.aload X8.here hx rfl (hb hby at_132) rfl rfl k) ?_
      show OGo p e below s room_1 (OLawQ n0) (T8.setTop (mkF m 134 #[.val (.long q1), .second, .val (.long q2), .second, .val (.long q3), .second, .val (.long q4), .second, .val (.int q5), .val (.long (999999999 : Int64)), .second, .val (.long ms), .second, .val (.long mr), .second, .val (.long lots), .second, .val (.long whole), .second, .val (.long sv), .second, .val (.ref b1), .val (.int (0 : Int32))] [(.ref b1)]))
      refine own_st (fun t k => XS.lload X8.here hx rfl (hb hby at_134) rfl k) ?_
      show OGo p e below s room_1 (OLawQ n0) (T8.setTop (mkF m 136 #[.val (.long q1), .second, .val (.long q2), .second, .val (.long q3), .second, .val (.long q4), .second, .val (.int q5), .val (.long (999999999 : Int64)), .second, .val (.long ms), .second, .val (.long mr), .second, .val (.long lots), .second, .val (.long whole), .second, .val (.long sv), .second, .val (.ref b1), .val (.int (0 : Int32))] [(.long lots), (.ref b1)]))
      refine own_st (fun t k => XS.lload X8.here hx rfl (hb hby at_136) rfl k) ?_
      show OGo p e below s room_1 (OLawQ n0) (T8.setTop (mkF m 138 #[.val (.long q1), .second, .val (.long q2), .second, .val (.long q3), .second, .val (.long q4), .second, .val (.int q5), .val (.long (999999999 : Int64)), .second, .val (.long ms), .second, .val (.long mr), .second, .val (.long lots), .second, .val (.long whole), .second, .val (.long sv), .second, .val (.ref b1), .val (.int (0 : Int32))] [(.long sv), (.long lots), (.ref b1)]))
      obtain ⟨T9, X9, e9, st9⟩ := own_callVP X8 hx hZ (y := (⟨"com/example/kurslot/kurslot/matching/HiddenLimits", "allows", "(JJ)Z"⟩ : MethodName)) (z := (⟨"com/example/kurslot/kurslot/matching/HiddenLimits", "allows", "(JJ)Z"⟩ : MethodName)) (W := 0) hown (hw _ (List.mem_of_getElem? (i := 21) rfl)) (hw _ (List.mem_of_getElem? (i := 22) rfl)) (notFace_of_selects (args := #[]) (mvT hZ (hw _ (List.mem_of_getElem? (i := 24) rfl)))) (hw _ (List.mem_of_getElem? (i := 24) rfl)) (hw _ (List.mem_of_getElem? (i := 23) rfl)) (hw _ (List.mem_of_getElem? (i := 25) rfl)) (hw _ (List.mem_of_getElem? (i := 4) rfl)) (by decide) (rm4 l Z a0 hw b1 lots sv ms mr 0 T8.heap F1 F2 (by rw [decide_eq_false (fun z => z.1 hc89)]; rfl)) (by decide) (by decide) E_b1 (g := (mkF m 138 #[.val (.long q1), .second, .val (.long q2), .second, .val (.long q3), .second, .val (.long q4), .second, .val (.int q5), .val (.long (999999999 : Int64)), .second, .val (.long ms), .second, .val (.long mr), .second, .val (.long lots), .second, .val (.long whole), .second, .val (.long sv), .second, .val (.ref b1), .val (.int (0 : Int32))] [(.long sv), (.long lots), (.ref b1)])) rfl (by rw [hml]; rfl) (argsL := [(.long lots), (.long sv)]) (rest := []) (lenOf pd_2 rfl) rfl (by show 2 * 0 + _ ≤ _; exact Nat.le_of_eq rfl) (hb hby at_138) rfl rfl (by decide) (by decide)
      refine own_st st9 ?_
      show OGo p e below s room_1 (OLawQ n0) (T9.setTop (mkF m 141 #[.val (.long q1), .second, .val (.long q2), .second, .val (.long q3), .second, .val (.long q4), .second, .val (.int q5), .val (.long (999999999 : Int64)), .second, .val (.long ms), .second, .val (.long mr), .second, .val (.long lots), .second, .val (.long whole), .second, .val (.long sv), .second, .val (.ref b1), .val (.int (0 : Int32))] [(.int (0 : Int32))]))
      refine own_st (fun t k => XS.iload X9.here hx rfl (hb hby at_141) rfl k) ?_
      show OGo p e below s room_1 (OLawQ n0) (T9.setTop (mkF m 143 #[.val (.long q1), .second, .val (.long q2), .second, .val (.long q3), .second, .val (.long q4), .second, .val (.int q5), .val (.long (999999999 : Int64)), .second, .val (.long ms), .second, .val (.long mr), .second, .val (.long lots), .second, .val (.long whole), .second, .val (.long sv), .second, .val (.ref b1), .val (.int (0 : Int32))] [(.int (0 : Int32)), (.int (0 : Int32))]))
      refine own_st (fun t k => XS.icmpNo X9.here hx rfl (hb hby at_143) rfl (teq (rfl)).2 k) ?_
      show OGo p e below s room_1 (OLawQ n0) (T9.setTop (mkF m 146 #[.val (.long q1), .second, .val (.long q2), .second, .val (.long q3), .second, .val (.long q4), .second, .val (.int q5), .val (.long (999999999 : Int64)), .second, .val (.long ms), .second, .val (.long mr), .second, .val (.long lots), .second, .val (.long whole), .second, .val (.long sv), .second, .val (.ref b1), .val (.int (0 : Int32))] []))
      refine own_st (fun t k => XS.iconst X9.here hx rfl (hb hby at_146) k) ?_
      show OGo p e below s room_1 (OLawQ n0) (T9.setTop (mkF m 147 #[.val (.long q1), .second, .val (.long q2), .second, .val (.long q3), .second, .val (.long q4), .second, .val (.int q5), .val (.long (999999999 : Int64)), .second, .val (.long ms), .second, .val (.long mr), .second, .val (.long lots), .second, .val (.long whole), .second, .val (.long sv), .second, .val (.ref b1), .val (.int (0 : Int32))] [(.int (1 : Int32))]))
      refine own_st (fun t k => XS.goto X9.here hx rfl (pc0 := 147) (pc' := 151) rfl (hb hby at_147) (by decide) (by decide) k) ?_
      show OGo p e below s room_1 (OLawQ n0) (T9.setTop (mkF m 151 #[.val (.long q1), .second, .val (.long q2), .second, .val (.long q3), .second, .val (.long q4), .second, .val (.int q5), .val (.long (999999999 : Int64)), .second, .val (.long ms), .second, .val (.long mr), .second, .val (.long lots), .second, .val (.long whole), .second, .val (.long sv), .second, .val (.ref b1), .val (.int (0 : Int32))] [(.int (1 : Int32))]))
      exact own_retN X9 hx hlk (t := .boolean) hret (by simp) (hb hby at_151) (by decide) (by decide) (⟨rfl, N1⟩)
    · refine own_st (fun t k => XS.ifYes X8.here hx rfl (pc0 := 89) (pc' := 98) rfl (hb hby at_89) rfl ((if0 _ _).trans (flt ((not_congr (lw_lt sv ms)).mpr hc89)).2.1) (by decide) (by decide) k) ?_
      show OGo p e below s room_1 (OLawQ n0) (T8.setTop (mkF m 98 #[.val (.long q1), .second, .val (.long q2), .second, .val (.long q3), .second, .val (.long q4), .second, .val (.int q5), .val (.long (999999999 : Int64)), .second, .val (.long ms), .second, .val (.long mr), .second, .val (.long lots), .second, .val (.long whole), .second, .val (.long sv), .second, .val (.ref b1), .unset] []))
      refine own_st (fun t k => XS.lload X8.here hx rfl (hb hby at_98) rfl k) ?_
      show OGo p e below s room_1 (OLawQ n0) (T8.setTop (mkF m 100 #[.val (.long q1), .second, .val (.long q2), .second, .val (.long q3), .second, .val (.long q4), .second, .val (.int q5), .val (.long (999999999 : Int64)), .second, .val (.long ms), .second, .val (.long mr), .second, .val (.long lots), .second, .val (.long whole), .second, .val (.long sv), .second, .val (.ref b1), .unset] [(.long sv)]))
      refine own_st (fun t k => XS.lload X8.here hx rfl (hb hby at_100) rfl k) ?_
      show OGo p e below s room_1 (OLawQ n0) (T8.setTop (mkF m 102 #[.val (.long q1), .second, .val (.long q2), .second, .val (.long q3), .second, .val (.long q4), .second, .val (.int q5), .val (.long (999999999 : Int64)), .second, .val (.long ms), .second, .val (.long mr), .second, .val (.long lots), .second, .val (.long whole), .second, .val (.long sv), .second, .val (.ref b1), .unset] [(.long lots), (.long sv)]))
      refine own_st (fun t k => XS.lcmp X8.here hx rfl (hb hby at_102) rfl k) ?_
      show OGo p e below s room_1 (OLawQ n0) (T8.setTop (mkF m 103 #[.val (.long q1), .second, .val (.long q2), .second, .val (.long q3), .second, .val (.long q4), .second, .val (.int q5), .val (.long (999999999 : Int64)), .second, .val (.long ms), .second, .val (.long mr), .second, .val (.long lots), .second, .val (.long whole), .second, .val (.long sv), .second, .val (.ref b1), .unset] [(.int (lcmpW sv lots))]))
      by_cases hc103 : lots < sv
      · refine own_st (fun t k => XS.ifNo X8.here hx rfl (hb hby at_103) rfl ((if0 _ _).trans (tlt ((lw_gt sv lots).mpr hc103)).2.2.2) k) ?_
        show OGo p e below s room_1 (OLawQ n0) (T8.setTop (mkF m 106 #[.val (.long q1), .second, .val (.long q2), .second, .val (.long q3), .second, .val (.long q4), .second, .val (.int q5), .val (.long (999999999 : Int64)), .second, .val (.long ms), .second, .val (.long mr), .second, .val (.long lots), .second, .val (.long whole), .second, .val (.long sv), .second, .val (.ref b1), .unset] []))
        refine own_st (fun t k => XS.iconst X8.here hx rfl (hb hby at_106) k) ?_
        show OGo p e below s room_1 (OLawQ n0) (T8.setTop (mkF m 107 #[.val (.long q1), .second, .val (.long q2), .second, .val (.long q3), .second, .val (.long q4), .second, .val (.int q5), .val (.long (999999999 : Int64)), .second, .val (.long ms), .second, .val (.long mr), .second, .val (.long lots), .second, .val (.long whole), .second, .val (.long sv), .second, .val (.ref b1), .unset] [(.int (0 : Int32))]))
        refine own_st (fun t k => XS.istore X8.here hx rfl (hb hby at_107) rfl (l' := #[.val (.long q1), .second, .val (.long q2), .second, .val (.long q3), .second, .val (.long q4), .second, .val (.int q5), .val (.long (999999999 : Int64)), .second, .val (.long ms), .second, .val (.long mr), .second, .val (.long lots), .second, .val (.long whole), .second, .val (.long sv), .second, .val (.ref b1), .val (.int (0 : Int32))]) rfl k) ?_
        show OGo p e below s room_1 (OLawQ n0) (T8.setTop (mkF m 109 #[.val (.long q1), .second, .val (.long q2), .second, .val (.long q3), .second, .val (.long q4), .second, .val (.int q5), .val (.long (999999999 : Int64)), .second, .val (.long ms), .second, .val (.long mr), .second, .val (.long lots), .second, .val (.long whole), .second, .val (.long sv), .second, .val (.ref b1), .val (.int (0 : Int32))] []))
        refine own_st (fun t k => XS.goto X8.here hx rfl (pc0 := 109) (pc' := 132) rfl (hb hby at_109) (by decide) (by decide) k) ?_
        show OGo p e below s room_1 (OLawQ n0) (T8.setTop (mkF m 132 #[.val (.long q1), .second, .val (.long q2), .second, .val (.long q3), .second, .val (.long q4), .second, .val (.int q5), .val (.long (999999999 : Int64)), .second, .val (.long ms), .second, .val (.long mr), .second, .val (.long lots), .second, .val (.long whole), .second, .val (.long sv), .second, .val (.ref b1), .val (.int (0 : Int32))] []))
        refine own_st (fun t k => XS.aload X8.here hx rfl (hb hby at_132) rfl rfl k) ?_
        show OGo p e below s room_1 (OLawQ n0) (T8.setTop (mkF m 134 #[.val (.long q1), .second, .val (.long q2), .second, .val (.long q3), .second, .val (.long q4), .second, .val (.int q5), .val (.long (999999999 : Int64)), .second, .val (.long ms), .second, .val (.long mr), .second, .val (.long lots), .second, .val (.long whole), .second, .val (.long sv), .second, .val (.ref b1), .val (.int (0 : Int32))] [(.ref b1)]))
        refine own_st (fun t k => XS.lload X8.here hx rfl (hb hby at_134) rfl k) ?_
        show OGo p e below s room_1 (OLawQ n0) (T8.setTop (mkF m 136 #[.val (.long q1), .second, .val (.long q2), .second, .val (.long q3), .second, .val (.long q4), .second, .val (.int q5), .val (.long (999999999 : Int64)), .second, .val (.long ms), .second, .val (.long mr), .second, .val (.long lots), .second, .val (.long whole), .second, .val (.long sv), .second, .val (.ref b1), .val (.int (0 : Int32))] [(.long lots), (.ref b1)]))
        refine own_st (fun t k => XS.lload X8.here hx rfl (hb hby at_136) rfl k) ?_
        show OGo p e below s room_1 (OLawQ n0) (T8.setTop (mkF m 138 #[.val (.long q1), .second, .val (.long q2), .second, .val (.long q3), .second, .val (.long q4), .second, .val (.int q5), .val (.long (999999999 : Int64)), .second, .val (.long ms), .second, .val (.long mr), .second, .val (.long lots), .second, .val (.long whole), .second, .val (.long sv), .second, .val (.ref b1), .val (.int (0 : Int32))] [(.long sv), (.long lots), (.ref b1)]))
        obtain ⟨T10, X10, e10, st10⟩ := own_callVP X8 hx hZ (y := (⟨"com/example/kurslot/kurslot/matching/HiddenLimits", "allows", "(JJ)Z"⟩ : MethodName)) (z := (⟨"com/example/kurslot/kurslot/matching/HiddenLimits", "allows", "(JJ)Z"⟩ : MethodName)) (W := 0) hown (hw _ (List.mem_of_getElem? (i := 21) rfl)) (hw _ (List.mem_of_getElem? (i := 22) rfl)) (notFace_of_selects (args := #[]) (mvT hZ (hw _ (List.mem_of_getElem? (i := 24) rfl)))) (hw _ (List.mem_of_getElem? (i := 24) rfl)) (hw _ (List.mem_of_getElem? (i := 23) rfl)) (hw _ (List.mem_of_getElem? (i := 25) rfl)) (hw _ (List.mem_of_getElem? (i := 4) rfl)) (by decide) (rm4 l Z a0 hw b1 lots sv ms mr 0 T8.heap F1 F2 (by rw [decide_eq_false (fun z => z.2.1 hc103)]; rfl)) (by decide) (by decide) E_b1 (g := (mkF m 138 #[.val (.long q1), .second, .val (.long q2), .second, .val (.long q3), .second, .val (.long q4), .second, .val (.int q5), .val (.long (999999999 : Int64)), .second, .val (.long ms), .second, .val (.long mr), .second, .val (.long lots), .second, .val (.long whole), .second, .val (.long sv), .second, .val (.ref b1), .val (.int (0 : Int32))] [(.long sv), (.long lots), (.ref b1)])) rfl (by rw [hml]; rfl) (argsL := [(.long lots), (.long sv)]) (rest := []) (lenOf pd_2 rfl) rfl (by show 2 * 0 + _ ≤ _; exact Nat.le_of_eq rfl) (hb hby at_138) rfl rfl (by decide) (by decide)
        refine own_st st10 ?_
        show OGo p e below s room_1 (OLawQ n0) (T10.setTop (mkF m 141 #[.val (.long q1), .second, .val (.long q2), .second, .val (.long q3), .second, .val (.long q4), .second, .val (.int q5), .val (.long (999999999 : Int64)), .second, .val (.long ms), .second, .val (.long mr), .second, .val (.long lots), .second, .val (.long whole), .second, .val (.long sv), .second, .val (.ref b1), .val (.int (0 : Int32))] [(.int (0 : Int32))]))
        refine own_st (fun t k => XS.iload X10.here hx rfl (hb hby at_141) rfl k) ?_
        show OGo p e below s room_1 (OLawQ n0) (T10.setTop (mkF m 143 #[.val (.long q1), .second, .val (.long q2), .second, .val (.long q3), .second, .val (.long q4), .second, .val (.int q5), .val (.long (999999999 : Int64)), .second, .val (.long ms), .second, .val (.long mr), .second, .val (.long lots), .second, .val (.long whole), .second, .val (.long sv), .second, .val (.ref b1), .val (.int (0 : Int32))] [(.int (0 : Int32)), (.int (0 : Int32))]))
        refine own_st (fun t k => XS.icmpNo X10.here hx rfl (hb hby at_143) rfl (teq (rfl)).2 k) ?_
        show OGo p e below s room_1 (OLawQ n0) (T10.setTop (mkF m 146 #[.val (.long q1), .second, .val (.long q2), .second, .val (.long q3), .second, .val (.long q4), .second, .val (.int q5), .val (.long (999999999 : Int64)), .second, .val (.long ms), .second, .val (.long mr), .second, .val (.long lots), .second, .val (.long whole), .second, .val (.long sv), .second, .val (.ref b1), .val (.int (0 : Int32))] []))
        refine own_st (fun t k => XS.iconst X10.here hx rfl (hb hby at_146) k) ?_
        show OGo p e below s room_1 (OLawQ n0) (T10.setTop (mkF m 147 #[.val (.long q1), .second, .val (.long q2), .second, .val (.long q3), .second, .val (.long q4), .second, .val (.int q5), .val (.long (999999999 : Int64)), .second, .val (.long ms), .second, .val (.long mr), .second, .val (.long lots), .second, .val (.long whole), .second, .val (.long sv), .second, .val (.ref b1), .val (.int (0 : Int32))] [(.int (1 : Int32))]))
        refine own_st (fun t k => XS.goto X10.here hx rfl (pc0 := 147) (pc' := 151) rfl (hb hby at_147) (by decide) (by decide) k) ?_
        show OGo p e below s room_1 (OLawQ n0) (T10.setTop (mkF m 151 #[.val (.long q1), .second, .val (.long q2), .second, .val (.long q3), .second, .val (.long q4), .second, .val (.int q5), .val (.long (999999999 : Int64)), .second, .val (.long ms), .second, .val (.long mr), .second, .val (.long lots), .second, .val (.long whole), .second, .val (.long sv), .second, .val (.ref b1), .val (.int (0 : Int32))] [(.int (1 : Int32))]))
        exact own_retN X10 hx hlk (t := .boolean) hret (by simp) (hb hby at_151) (by decide) (by decide) (⟨rfl, N1⟩)
      · refine own_st (fun t k => XS.ifYes X8.here hx rfl (pc0 := 103) (pc' := 112) rfl (hb hby at_103) rfl ((if0 _ _).trans (flt ((not_congr (lw_gt sv lots)).mpr hc103)).2.2.2) (by decide) (by decide) k) ?_
        show OGo p e below s room_1 (OLawQ n0) (T8.setTop (mkF m 112 #[.val (.long q1), .second, .val (.long q2), .second, .val (.long q3), .second, .val (.long q4), .second, .val (.int q5), .val (.long (999999999 : Int64)), .second, .val (.long ms), .second, .val (.long mr), .second, .val (.long lots), .second, .val (.long whole), .second, .val (.long sv), .second, .val (.ref b1), .unset] []))
        refine own_st (fun t k => XS.lload X8.here hx rfl (hb hby at_112) rfl k) ?_
        show OGo p e below s room_1 (OLawQ n0) (T8.setTop (mkF m 114 #[.val (.long q1), .second, .val (.long q2), .second, .val (.long q3), .second, .val (.long q4), .second, .val (.int q5), .val (.long (999999999 : Int64)), .second, .val (.long ms), .second, .val (.long mr), .second, .val (.long lots), .second, .val (.long whole), .second, .val (.long sv), .second, .val (.ref b1), .unset] [(.long lots)]))
        refine own_st (fun t k => XS.lconst X8.here hx rfl (hb hby at_114) k) ?_
        show OGo p e below s room_1 (OLawQ n0) (T8.setTop (mkF m 115 #[.val (.long q1), .second, .val (.long q2), .second, .val (.long q3), .second, .val (.long q4), .second, .val (.int q5), .val (.long (999999999 : Int64)), .second, .val (.long ms), .second, .val (.long mr), .second, .val (.long lots), .second, .val (.long whole), .second, .val (.long sv), .second, .val (.ref b1), .unset] [(.long (1 : Int64)), (.long lots)]))
        refine own_st (fun t k => XS.lsub X8.here hx rfl (hb hby at_115) rfl k) ?_
        show OGo p e below s room_1 (OLawQ n0) (T8.setTop (mkF m 116 #[.val (.long q1), .second, .val (.long q2), .second, .val (.long q3), .second, .val (.long q4), .second, .val (.int q5), .val (.long (999999999 : Int64)), .second, .val (.long ms), .second, .val (.long mr), .second, .val (.long lots), .second, .val (.long whole), .second, .val (.long sv), .second, .val (.ref b1), .unset] [(.long (lots - (1 : Int64)))]))
        refine own_st (fun t k => XS.lload X8.here hx rfl (hb hby at_116) rfl k) ?_
        show OGo p e below s room_1 (OLawQ n0) (T8.setTop (mkF m 118 #[.val (.long q1), .second, .val (.long q2), .second, .val (.long q3), .second, .val (.long q4), .second, .val (.int q5), .val (.long (999999999 : Int64)), .second, .val (.long ms), .second, .val (.long mr), .second, .val (.long lots), .second, .val (.long whole), .second, .val (.long sv), .second, .val (.ref b1), .unset] [(.long sv), (.long (lots - (1 : Int64)))]))
        refine own_st (fun t k => XS.ldiv X8.here hx rfl (hb hby at_118) rfl (own_nz (by rw [Int64.lt_iff_toInt_lt] at hc89; omega)) k) ?_
        show OGo p e below s room_1 (OLawQ n0) (T8.setTop (mkF m 119 #[.val (.long q1), .second, .val (.long q2), .second, .val (.long q3), .second, .val (.long q4), .second, .val (.int q5), .val (.long (999999999 : Int64)), .second, .val (.long ms), .second, .val (.long mr), .second, .val (.long lots), .second, .val (.long whole), .second, .val (.long sv), .second, .val (.ref b1), .unset] [(.long ((lots - (1 : Int64)) / sv))]))
        refine own_st (fun t k => XS.lload X8.here hx rfl (hb hby at_119) rfl k) ?_
        show OGo p e below s room_1 (OLawQ n0) (T8.setTop (mkF m 121 #[.val (.long q1), .second, .val (.long q2), .second, .val (.long q3), .second, .val (.long q4), .second, .val (.int q5), .val (.long (999999999 : Int64)), .second, .val (.long ms), .second, .val (.long mr), .second, .val (.long lots), .second, .val (.long whole), .second, .val (.long sv), .second, .val (.ref b1), .unset] [(.long mr), (.long ((lots - (1 : Int64)) / sv))]))
        refine own_st (fun t k => XS.lcmp X8.here hx rfl (hb hby at_121) rfl k) ?_
        show OGo p e below s room_1 (OLawQ n0) (T8.setTop (mkF m 122 #[.val (.long q1), .second, .val (.long q2), .second, .val (.long q3), .second, .val (.long q4), .second, .val (.int q5), .val (.long (999999999 : Int64)), .second, .val (.long ms), .second, .val (.long mr), .second, .val (.long lots), .second, .val (.long whole), .second, .val (.long sv), .second, .val (.ref b1), .unset] [(.int (lcmpW ((lots - (1 : Int64)) / sv) mr))]))
        by_cases hc122 : ((lots - (1 : Int64)) / sv) < mr
        · refine own_st (fun t k => XS.ifNo X8.here hx rfl (hb hby at_122) rfl ((if0 _ _).trans (tlt ((lw_lt ((lots - (1 : Int64)) / sv) mr).mpr hc122)).2.1) k) ?_
          show OGo p e below s room_1 (OLawQ n0) (T8.setTop (mkF m 125 #[.val (.long q1), .second, .val (.long q2), .second, .val (.long q3), .second, .val (.long q4), .second, .val (.int q5), .val (.long (999999999 : Int64)), .second, .val (.long ms), .second, .val (.long mr), .second, .val (.long lots), .second, .val (.long whole), .second, .val (.long sv), .second, .val (.ref b1), .unset] []))
          refine own_st (fun t k => XS.iconst X8.here hx rfl (hb hby at_125) k) ?_
          show OGo p e below s room_1 (OLawQ n0) (T8.setTop (mkF m 126 #[.val (.long q1), .second, .val (.long q2), .second, .val (.long q3), .second, .val (.long q4), .second, .val (.int q5), .val (.long (999999999 : Int64)), .second, .val (.long ms), .second, .val (.long mr), .second, .val (.long lots), .second, .val (.long whole), .second, .val (.long sv), .second, .val (.ref b1), .unset] [(.int (1 : Int32))]))
          refine own_st (fun t k => XS.goto X8.here hx rfl (pc0 := 126) (pc' := 130) rfl (hb hby at_126) (by decide) (by decide) k) ?_
          show OGo p e below s room_1 (OLawQ n0) (T8.setTop (mkF m 130 #[.val (.long q1), .second, .val (.long q2), .second, .val (.long q3), .second, .val (.long q4), .second, .val (.int q5), .val (.long (999999999 : Int64)), .second, .val (.long ms), .second, .val (.long mr), .second, .val (.long lots), .second, .val (.long whole), .second, .val (.long sv), .second, .val (.ref b1), .unset] [(.int (1 : Int32))]))
          refine own_st (fun t k => XS.istore X8.here hx rfl (hb hby at_130) rfl (l' := #[.val (.long q1), .second, .val (.long q2), .second, .val (.long q3), .second, .val (.long q4), .second, .val (.int q5), .val (.long (999999999 : Int64)), .second, .val (.long ms), .second, .val (.long mr), .second, .val (.long lots), .second, .val (.long whole), .second, .val (.long sv), .second, .val (.ref b1), .val (.int (1 : Int32))]) rfl k) ?_
          show OGo p e below s room_1 (OLawQ n0) (T8.setTop (mkF m 132 #[.val (.long q1), .second, .val (.long q2), .second, .val (.long q3), .second, .val (.long q4), .second, .val (.int q5), .val (.long (999999999 : Int64)), .second, .val (.long ms), .second, .val (.long mr), .second, .val (.long lots), .second, .val (.long whole), .second, .val (.long sv), .second, .val (.ref b1), .val (.int (1 : Int32))] []))
          refine own_st (fun t k => XS.aload X8.here hx rfl (hb hby at_132) rfl rfl k) ?_
          show OGo p e below s room_1 (OLawQ n0) (T8.setTop (mkF m 134 #[.val (.long q1), .second, .val (.long q2), .second, .val (.long q3), .second, .val (.long q4), .second, .val (.int q5), .val (.long (999999999 : Int64)), .second, .val (.long ms), .second, .val (.long mr), .second, .val (.long lots), .second, .val (.long whole), .second, .val (.long sv), .second, .val (.ref b1), .val (.int (1 : Int32))] [(.ref b1)]))
          refine own_st (fun t k => XS.lload X8.here hx rfl (hb hby at_134) rfl k) ?_
          show OGo p e below s room_1 (OLawQ n0) (T8.setTop (mkF m 136 #[.val (.long q1), .second, .val (.long q2), .second, .val (.long q3), .second, .val (.long q4), .second, .val (.int q5), .val (.long (999999999 : Int64)), .second, .val (.long ms), .second, .val (.long mr), .second, .val (.long lots), .second, .val (.long whole), .second, .val (.long sv), .second, .val (.ref b1), .val (.int (1 : Int32))] [(.long lots), (.ref b1)]))
          refine own_st (fun t k => XS.lload X8.here hx rfl (hb hby at_136) rfl k) ?_
          show OGo p e below s room_1 (OLawQ n0) (T8.setTop (mkF m 138 #[.val (.long q1), .second, .val (.long q2), .second, .val (.long q3), .second, .val (.long q4), .second, .val (.int q5), .val (.long (999999999 : Int64)), .second, .val (.long ms), .second, .val (.long mr), .second, .val (.long lots), .second, .val (.long whole), .second, .val (.long sv), .second, .val (.ref b1), .val (.int (1 : Int32))] [(.long sv), (.long lots), (.ref b1)]))
          obtain ⟨T11, X11, e11, st11⟩ := own_callVP X8 hx hZ (y := (⟨"com/example/kurslot/kurslot/matching/HiddenLimits", "allows", "(JJ)Z"⟩ : MethodName)) (z := (⟨"com/example/kurslot/kurslot/matching/HiddenLimits", "allows", "(JJ)Z"⟩ : MethodName)) (W := 0) hown (hw _ (List.mem_of_getElem? (i := 21) rfl)) (hw _ (List.mem_of_getElem? (i := 22) rfl)) (notFace_of_selects (args := #[]) (mvT hZ (hw _ (List.mem_of_getElem? (i := 24) rfl)))) (hw _ (List.mem_of_getElem? (i := 24) rfl)) (hw _ (List.mem_of_getElem? (i := 23) rfl)) (hw _ (List.mem_of_getElem? (i := 25) rfl)) (hw _ (List.mem_of_getElem? (i := 4) rfl)) (by decide) (rm4 l Z a0 hw b1 lots sv ms mr 1 T8.heap F1 F2 (by rw [decide_eq_true ⟨hc89, hc103, (own_div ms1 mr1 mr2 lots1 lots2 hc89 hc103).mp hc122⟩]; rfl)) (by decide) (by decide) E_b1 (g := (mkF m 138 #[.val (.long q1), .second, .val (.long q2), .second, .val (.long q3), .second, .val (.long q4), .second, .val (.int q5), .val (.long (999999999 : Int64)), .second, .val (.long ms), .second, .val (.long mr), .second, .val (.long lots), .second, .val (.long whole), .second, .val (.long sv), .second, .val (.ref b1), .val (.int (1 : Int32))] [(.long sv), (.long lots), (.ref b1)])) rfl (by rw [hml]; rfl) (argsL := [(.long lots), (.long sv)]) (rest := []) (lenOf pd_2 rfl) rfl (by show 2 * 0 + _ ≤ _; exact Nat.le_of_eq rfl) (hb hby at_138) rfl rfl (by decide) (by decide)
          refine own_st st11 ?_
          show OGo p e below s room_1 (OLawQ n0) (T11.setTop (mkF m 141 #[.val (.long q1), .second, .val (.long q2), .second, .val (.long q3), .second, .val (.long q4), .second, .val (.int q5), .val (.long (999999999 : Int64)), .second, .val (.long ms), .second, .val (.long mr), .second, .val (.long lots), .second, .val (.long whole), .second, .val (.long sv), .second, .val (.ref b1), .val (.int (1 : Int32))] [(.int (1 : Int32))]))
          refine own_st (fun t k => XS.iload X11.here hx rfl (hb hby at_141) rfl k) ?_
          show OGo p e below s room_1 (OLawQ n0) (T11.setTop (mkF m 143 #[.val (.long q1), .second, .val (.long q2), .second, .val (.long q3), .second, .val (.long q4), .second, .val (.int q5), .val (.long (999999999 : Int64)), .second, .val (.long ms), .second, .val (.long mr), .second, .val (.long lots), .second, .val (.long whole), .second, .val (.long sv), .second, .val (.ref b1), .val (.int (1 : Int32))] [(.int (1 : Int32)), (.int (1 : Int32))]))
          refine own_st (fun t k => XS.icmpNo X11.here hx rfl (hb hby at_143) rfl (teq (rfl)).2 k) ?_
          show OGo p e below s room_1 (OLawQ n0) (T11.setTop (mkF m 146 #[.val (.long q1), .second, .val (.long q2), .second, .val (.long q3), .second, .val (.long q4), .second, .val (.int q5), .val (.long (999999999 : Int64)), .second, .val (.long ms), .second, .val (.long mr), .second, .val (.long lots), .second, .val (.long whole), .second, .val (.long sv), .second, .val (.ref b1), .val (.int (1 : Int32))] []))
          refine own_st (fun t k => XS.iconst X11.here hx rfl (hb hby at_146) k) ?_
          show OGo p e below s room_1 (OLawQ n0) (T11.setTop (mkF m 147 #[.val (.long q1), .second, .val (.long q2), .second, .val (.long q3), .second, .val (.long q4), .second, .val (.int q5), .val (.long (999999999 : Int64)), .second, .val (.long ms), .second, .val (.long mr), .second, .val (.long lots), .second, .val (.long whole), .second, .val (.long sv), .second, .val (.ref b1), .val (.int (1 : Int32))] [(.int (1 : Int32))]))
          refine own_st (fun t k => XS.goto X11.here hx rfl (pc0 := 147) (pc' := 151) rfl (hb hby at_147) (by decide) (by decide) k) ?_
          show OGo p e below s room_1 (OLawQ n0) (T11.setTop (mkF m 151 #[.val (.long q1), .second, .val (.long q2), .second, .val (.long q3), .second, .val (.long q4), .second, .val (.int q5), .val (.long (999999999 : Int64)), .second, .val (.long ms), .second, .val (.long mr), .second, .val (.long lots), .second, .val (.long whole), .second, .val (.long sv), .second, .val (.ref b1), .val (.int (1 : Int32))] [(.int (1 : Int32))]))
          exact own_retN X11 hx hlk (t := .boolean) hret (by simp) (hb hby at_151) (by decide) (by decide) (⟨rfl, N1⟩)
        · refine own_st (fun t k => XS.ifYes X8.here hx rfl (pc0 := 122) (pc' := 129) rfl (hb hby at_122) rfl ((if0 _ _).trans (flt ((not_congr (lw_lt ((lots - (1 : Int64)) / sv) mr)).mpr hc122)).2.1) (by decide) (by decide) k) ?_
          show OGo p e below s room_1 (OLawQ n0) (T8.setTop (mkF m 129 #[.val (.long q1), .second, .val (.long q2), .second, .val (.long q3), .second, .val (.long q4), .second, .val (.int q5), .val (.long (999999999 : Int64)), .second, .val (.long ms), .second, .val (.long mr), .second, .val (.long lots), .second, .val (.long whole), .second, .val (.long sv), .second, .val (.ref b1), .unset] []))
          refine own_st (fun t k => XS.iconst X8.here hx rfl (hb hby at_129) k) ?_
          show OGo p e below s room_1 (OLawQ n0) (T8.setTop (mkF m 130 #[.val (.long q1), .second, .val (.long q2), .second, .val (.long q3), .second, .val (.long q4), .second, .val (.int q5), .val (.long (999999999 : Int64)), .second, .val (.long ms), .second, .val (.long mr), .second, .val (.long lots), .second, .val (.long whole), .second, .val (.long sv), .second, .val (.ref b1), .unset] [(.int (0 : Int32))]))
          refine own_st (fun t k => XS.istore X8.here hx rfl (hb hby at_130) rfl (l' := #[.val (.long q1), .second, .val (.long q2), .second, .val (.long q3), .second, .val (.long q4), .second, .val (.int q5), .val (.long (999999999 : Int64)), .second, .val (.long ms), .second, .val (.long mr), .second, .val (.long lots), .second, .val (.long whole), .second, .val (.long sv), .second, .val (.ref b1), .val (.int (0 : Int32))]) rfl k) ?_
          show OGo p e below s room_1 (OLawQ n0) (T8.setTop (mkF m 132 #[.val (.long q1), .second, .val (.long q2), .second, .val (.long q3), .second, .val (.long q4), .second, .val (.int q5), .val (.long (999999999 : Int64)), .second, .val (.long ms), .second, .val (.long mr), .second, .val (.long lots), .second, .val (.long whole), .second, .val (.long sv), .second, .val (.ref b1), .val (.int (0 : Int32))] []))
          refine own_st (fun t k => XS.aload X8.here hx rfl (hb hby at_132) rfl rfl k) ?_
          show OGo p e below s room_1 (OLawQ n0) (T8.setTop (mkF m 134 #[.val (.long q1), .second, .val (.long q2), .second, .val (.long q3), .second, .val (.long q4), .second, .val (.int q5), .val (.long (999999999 : Int64)), .second, .val (.long ms), .second, .val (.long mr), .second, .val (.long lots), .second, .val (.long whole), .second, .val (.long sv), .second, .val (.ref b1), .val (.int (0 : Int32))] [(.ref b1)]))
          refine own_st (fun t k => XS.lload X8.here hx rfl (hb hby at_134) rfl k) ?_
          show OGo p e below s room_1 (OLawQ n0) (T8.setTop (mkF m 136 #[.val (.long q1), .second, .val (.long q2), .second, .val (.long q3), .second, .val (.long q4), .second, .val (.int q5), .val (.long (999999999 : Int64)), .second, .val (.long ms), .second, .val (.long mr), .second, .val (.long lots), .second, .val (.long whole), .second, .val (.long sv), .second, .val (.ref b1), .val (.int (0 : Int32))] [(.long lots), (.ref b1)]))
          refine own_st (fun t k => XS.lload X8.here hx rfl (hb hby at_136) rfl k) ?_
          show OGo p e below s room_1 (OLawQ n0) (T8.setTop (mkF m 138 #[.val (.long q1), .second, .val (.long q2), .second, .val (.long q3), .second, .val (.long q4), .second, .val (.int q5), .val (.long (999999999 : Int64)), .second, .val (.long ms), .second, .val (.long mr), .second, .val (.long lots), .second, .val (.long whole), .second, .val (.long sv), .second, .val (.ref b1), .val (.int (0 : Int32))] [(.long sv), (.long lots), (.ref b1)]))
          obtain ⟨T12, X12, e12, st12⟩ := own_callVP X8 hx hZ (y := (⟨"com/example/kurslot/kurslot/matching/HiddenLimits", "allows", "(JJ)Z"⟩ : MethodName)) (z := (⟨"com/example/kurslot/kurslot/matching/HiddenLimits", "allows", "(JJ)Z"⟩ : MethodName)) (W := 0) hown (hw _ (List.mem_of_getElem? (i := 21) rfl)) (hw _ (List.mem_of_getElem? (i := 22) rfl)) (notFace_of_selects (args := #[]) (mvT hZ (hw _ (List.mem_of_getElem? (i := 24) rfl)))) (hw _ (List.mem_of_getElem? (i := 24) rfl)) (hw _ (List.mem_of_getElem? (i := 23) rfl)) (hw _ (List.mem_of_getElem? (i := 25) rfl)) (hw _ (List.mem_of_getElem? (i := 4) rfl)) (by decide) (rm4 l Z a0 hw b1 lots sv ms mr 0 T8.heap F1 F2 (by rw [decide_eq_false (fun z => hc122 ((own_div ms1 mr1 mr2 lots1 lots2 hc89 hc103).mpr z.2.2))]; rfl)) (by decide) (by decide) E_b1 (g := (mkF m 138 #[.val (.long q1), .second, .val (.long q2), .second, .val (.long q3), .second, .val (.long q4), .second, .val (.int q5), .val (.long (999999999 : Int64)), .second, .val (.long ms), .second, .val (.long mr), .second, .val (.long lots), .second, .val (.long whole), .second, .val (.long sv), .second, .val (.ref b1), .val (.int (0 : Int32))] [(.long sv), (.long lots), (.ref b1)])) rfl (by rw [hml]; rfl) (argsL := [(.long lots), (.long sv)]) (rest := []) (lenOf pd_2 rfl) rfl (by show 2 * 0 + _ ≤ _; exact Nat.le_of_eq rfl) (hb hby at_138) rfl rfl (by decide) (by decide)
          refine own_st st12 ?_
          show OGo p e below s room_1 (OLawQ n0) (T12.setTop (mkF m 141 #[.val (.long q1), .second, .val (.long q2), .second, .val (.long q3), .second, .val (.long q4), .second, .val (.int q5), .val (.long (999999999 : Int64)), .second, .val (.long ms), .second, .val (.long mr), .second, .val (.long lots), .second, .val (.long whole), .second, .val (.long sv), .second, .val (.ref b1), .val (.int (0 : Int32))] [(.int (0 : Int32))]))
          refine own_st (fun t k => XS.iload X12.here hx rfl (hb hby at_141) rfl k) ?_
          show OGo p e below s room_1 (OLawQ n0) (T12.setTop (mkF m 143 #[.val (.long q1), .second, .val (.long q2), .second, .val (.long q3), .second, .val (.long q4), .second, .val (.int q5), .val (.long (999999999 : Int64)), .second, .val (.long ms), .second, .val (.long mr), .second, .val (.long lots), .second, .val (.long whole), .second, .val (.long sv), .second, .val (.ref b1), .val (.int (0 : Int32))] [(.int (0 : Int32)), (.int (0 : Int32))]))
          refine own_st (fun t k => XS.icmpNo X12.here hx rfl (hb hby at_143) rfl (teq (rfl)).2 k) ?_
          show OGo p e below s room_1 (OLawQ n0) (T12.setTop (mkF m 146 #[.val (.long q1), .second, .val (.long q2), .second, .val (.long q3), .second, .val (.long q4), .second, .val (.int q5), .val (.long (999999999 : Int64)), .second, .val (.long ms), .second, .val (.long mr), .second, .val (.long lots), .second, .val (.long whole), .second, .val (.long sv), .second, .val (.ref b1), .val (.int (0 : Int32))] []))
          refine own_st (fun t k => XS.iconst X12.here hx rfl (hb hby at_146) k) ?_
          show OGo p e below s room_1 (OLawQ n0) (T12.setTop (mkF m 147 #[.val (.long q1), .second, .val (.long q2), .second, .val (.long q3), .second, .val (.long q4), .second, .val (.int q5), .val (.long (999999999 : Int64)), .second, .val (.long ms), .second, .val (.long mr), .second, .val (.long lots), .second, .val (.long whole), .second, .val (.long sv), .second, .val (.ref b1), .val (.int (0 : Int32))] [(.int (1 : Int32))]))
          refine own_st (fun t k => XS.goto X12.here hx rfl (pc0 := 147) (pc' := 151) rfl (hb hby at_147) (by decide) (by decide) k) ?_
          show OGo p e below s room_1 (OLawQ n0) (T12.setTop (mkF m 151 #[.val (.long q1), .second, .val (.long q2), .second, .val (.long q3), .second, .val (.long q4), .second, .val (.int q5), .val (.long (999999999 : Int64)), .second, .val (.long ms), .second, .val (.long mr), .second, .val (.long lots), .second, .val (.long whole), .second, .val (.long sv), .second, .val (.ref b1), .val (.int (0 : Int32))] [(.int (1 : Int32))]))
          exact own_retN X12 hx hlk (t := .boolean) hret (by simp) (hb hby at_151) (by decide) (by decide) (⟨rfl, N1⟩)
  show OGo p e below s room_1 (OLawQ n0) (T0.setTop (mkF m 50 #[.val (.long q1), .second, .val (.long q2), .second, .val (.long q3), .second, .val (.long q4), .second, .val (.int q5), .val (.long (999999999 : Int64)), .second, .val (.long ms), .second, .val (.long mr), .second, .val (.long lots), .second, .val (.long whole), .second, .unset, .unset, .unset, .unset] []))
  refine own_st (fun t k => XS.iload X0.here hx rfl (hb hby at_50) rfl k) ?_
  show OGo p e below s room_1 (OLawQ n0) (T0.setTop (mkF m 52 #[.val (.long q1), .second, .val (.long q2), .second, .val (.long q3), .second, .val (.long q4), .second, .val (.int q5), .val (.long (999999999 : Int64)), .second, .val (.long ms), .second, .val (.long mr), .second, .val (.long lots), .second, .val (.long whole), .second, .unset, .unset, .unset, .unset] [(.int q5)]))
  refine own_st (fun t k => XS.iconst X0.here hx rfl (hb hby at_52) k) ?_
  show OGo p e below s room_1 (OLawQ n0) (T0.setTop (mkF m 53 #[.val (.long q1), .second, .val (.long q2), .second, .val (.long q3), .second, .val (.long q4), .second, .val (.int q5), .val (.long (999999999 : Int64)), .second, .val (.long ms), .second, .val (.long mr), .second, .val (.long lots), .second, .val (.long whole), .second, .unset, .unset, .unset, .unset] [(.int (1 : Int32)), (.int q5)]))
  refine own_st (fun t k => XS.iand X0.here hx rfl (hb hby at_53) rfl k) ?_
  show OGo p e below s room_1 (OLawQ n0) (T0.setTop (mkF m 54 #[.val (.long q1), .second, .val (.long q2), .second, .val (.long q3), .second, .val (.long q4), .second, .val (.int q5), .val (.long (999999999 : Int64)), .second, .val (.long ms), .second, .val (.long mr), .second, .val (.long lots), .second, .val (.long whole), .second, .unset, .unset, .unset, .unset] [(.int (q5 &&& (1 : Int32)))]))
  by_cases hc54 : (q5 &&& (1 : Int32)) = (0 : Int32)
  · refine own_st (fun t k => XS.ifYes X0.here hx rfl (pc0 := 54) (pc' := 62) rfl (hb hby at_54) rfl ((if0 _ _).trans (teq (hc54)).1) (by decide) (by decide) k) ?_
    show OGo p e below s room_1 (OLawQ n0) (T0.setTop (mkF m 62 #[.val (.long q1), .second, .val (.long q2), .second, .val (.long q3), .second, .val (.long q4), .second, .val (.int q5), .val (.long (999999999 : Int64)), .second, .val (.long ms), .second, .val (.long mr), .second, .val (.long lots), .second, .val (.long whole), .second, .unset, .unset, .unset, .unset] []))
    refine own_st (fun t k => XS.lload X0.here hx rfl (hb hby at_62) rfl k) ?_
    show OGo p e below s room_1 (OLawQ n0) (T0.setTop (mkF m 64 #[.val (.long q1), .second, .val (.long q2), .second, .val (.long q3), .second, .val (.long q4), .second, .val (.int q5), .val (.long (999999999 : Int64)), .second, .val (.long ms), .second, .val (.long mr), .second, .val (.long lots), .second, .val (.long whole), .second, .unset, .unset, .unset, .unset] [(.long whole)]))
    refine own_st (fun t k => XS.lload X0.here hx rfl (hb hby at_64) rfl k) ?_
    show OGo p e below s room_1 (OLawQ n0) (T0.setTop (mkF m 66 #[.val (.long q1), .second, .val (.long q2), .second, .val (.long q3), .second, .val (.long q4), .second, .val (.int q5), .val (.long (999999999 : Int64)), .second, .val (.long ms), .second, .val (.long mr), .second, .val (.long lots), .second, .val (.long whole), .second, .unset, .unset, .unset, .unset] [(.long lots), (.long whole)]))
    refine own_st (fun t k => XS.lconst X0.here hx rfl (hb hby at_66) k) ?_
    show OGo p e below s room_1 (OLawQ n0) (T0.setTop (mkF m 67 #[.val (.long q1), .second, .val (.long q2), .second, .val (.long q3), .second, .val (.long q4), .second, .val (.int q5), .val (.long (999999999 : Int64)), .second, .val (.long ms), .second, .val (.long mr), .second, .val (.long lots), .second, .val (.long whole), .second, .unset, .unset, .unset, .unset] [(.long (1 : Int64)), (.long lots), (.long whole)]))
    refine own_st (fun t k => XS.ladd X0.here hx rfl (hb hby at_67) rfl k) ?_
    show OGo p e below s room_1 (OLawQ n0) (T0.setTop (mkF m 68 #[.val (.long q1), .second, .val (.long q2), .second, .val (.long q3), .second, .val (.long q4), .second, .val (.int q5), .val (.long (999999999 : Int64)), .second, .val (.long ms), .second, .val (.long mr), .second, .val (.long lots), .second, .val (.long whole), .second, .unset, .unset, .unset, .unset] [(.long (lots + (1 : Int64))), (.long whole)]))
    refine own_st (fun t k => XS.lrem X0.here hx rfl (hb hby at_68) rfl (own_nz1 lots1 lots2) k) ?_
    show OGo p e below s room_1 (OLawQ n0) (T0.setTop (mkF m 69 #[.val (.long q1), .second, .val (.long q2), .second, .val (.long q3), .second, .val (.long q4), .second, .val (.int q5), .val (.long (999999999 : Int64)), .second, .val (.long ms), .second, .val (.long mr), .second, .val (.long lots), .second, .val (.long whole), .second, .unset, .unset, .unset, .unset] [(.long (whole - (whole / (lots + (1 : Int64))) * (lots + (1 : Int64))))]))
    exact J69 _
  · refine own_st (fun t k => XS.ifNo X0.here hx rfl (hb hby at_54) rfl ((if0 _ _).trans (feq (hc54)).1) k) ?_
    show OGo p e below s room_1 (OLawQ n0) (T0.setTop (mkF m 57 #[.val (.long q1), .second, .val (.long q2), .second, .val (.long q3), .second, .val (.long q4), .second, .val (.int q5), .val (.long (999999999 : Int64)), .second, .val (.long ms), .second, .val (.long mr), .second, .val (.long lots), .second, .val (.long whole), .second, .unset, .unset, .unset, .unset] []))
    refine own_st (fun t k => XS.lload X0.here hx rfl (hb hby at_57) rfl k) ?_
    show OGo p e below s room_1 (OLawQ n0) (T0.setTop (mkF m 59 #[.val (.long q1), .second, .val (.long q2), .second, .val (.long q3), .second, .val (.long q4), .second, .val (.int q5), .val (.long (999999999 : Int64)), .second, .val (.long ms), .second, .val (.long mr), .second, .val (.long lots), .second, .val (.long whole), .second, .unset, .unset, .unset, .unset] [(.long whole)]))
    refine own_st (fun t k => XS.goto X0.here hx rfl (pc0 := 59) (pc' := 69) rfl (hb hby at_59) (by decide) (by decide) k) ?_
    show OGo p e below s room_1 (OLawQ n0) (T0.setTop (mkF m 69 #[.val (.long q1), .second, .val (.long q2), .second, .val (.long q3), .second, .val (.long q4), .second, .val (.int q5), .val (.long (999999999 : Int64)), .second, .val (.long ms), .second, .val (.long mr), .second, .val (.long lots), .second, .val (.long whole), .second, .unset, .unset, .unset, .unset] [(.long whole)]))
    exact J69 _
set_option maxRecDepth 65536 in
set_option maxHeartbeats 40000000 in
theorem comes_1 {Post : Tables → Env → Array Value → State → Outcome → State → Prop} (hpost : ∀ tb e args s v u, (limb_1_1.after args s (.returned v) u = true ∧ limb_1_2.after args s (.returned v) u = true ∧ True) → FrameEnd s (.returned v) u (Jvm.fieldLocs frame_1_writes args s ++ Jvm.arrayLocs frame_1_arrays args s ++ Jvm.staticLocs frame_1_statics s) 16 128 → Post tb e args s (.returned v) u) :
    ArmFor flags0 classFile x code maxLocals ret World_1 tables_1 room_1 Calls_1 rest_1 Pre_1 Post := by
  intro l hfl _ _ p e ha hc hk s m args below hf hA hF happ hP
  obtain ⟨hcalls, hrest, hpre⟩ := hP
  obtain ⟨-, -, -, hnamed, -, -, -, hat⟩ := (Spec.applies_iff hf).mp happ
  obtain ⟨hg, hn⟩ := and_e (Cond.before_iff.mp (show (Jvm.Cond.and given_1 narrow_1).before args s = true from hpre))
  obtain ⟨gs1, gs2⟩ := and_e hg
  obtain ⟨gs3, gs4⟩ := and_e gs2
  obtain ⟨gs5, gs6⟩ := and_e gs4
  obtain ⟨gs7, gs8⟩ := and_e gs6
  obtain ⟨gs9, gs10⟩ := and_e gs8
  obtain ⟨w0, w1, w2, w3, w4, rfl⟩ : ∃ w0 w1 w2 w3 w4 : Value, args = #[w0, w1, w2, w3, w4] := by
    have hs : args.size = 5 := by simpa [Cond.value, given_1] using gs1
    obtain ⟨L⟩ := args
    match L, hs with
    | [w0, w1, w2, w3, w4], _ => exact ⟨w0, w1, w2, w3, w4, rfl⟩
  have hw := fun d (hd : d ∈ tables_1) => atoms_spec (ws := Jvm.Cond.code x code maxLocals ret :: tables_1) hat d (List.mem_cons_of_mem _ hd)
  have hfit : Fit s := fun {y c} hc i hi => by
    obtain ⟨ha, rfl⟩ := Array.getElem?_eq_some_iff.mp hc
    have q := List.all_eq_true.mp ((Array.all_eq_true_iff_forall_mem.mp hF) _ (Array.getElem_mem ha)) i (List.mem_range.mpr hi)
    simpa [Array.getElem?_eq_getElem hi] using q
  obtain ⟨i0, ei0⟩ := isL_v gs3
  obtain rfl : w0 = (.long i0) := Option.some.inj ei0
  obtain ⟨i1, ei1⟩ := isL_v gs5
  obtain rfl : w1 = (.long i1) := Option.some.inj ei1
  obtain ⟨i2, ei2⟩ := isL_v gs7
  obtain rfl : w2 = (.long i2) := Option.some.inj ei2
  obtain ⟨i3, ei3⟩ := isL_v gs9
  obtain rfl : w3 = (.long i3) := Option.some.inj ei3
  obtain ⟨i4, ei4⟩ := is_v gs10
  obtain rfl : w4 = (.int i4) := Option.some.inj ei4
  obtain ⟨n, o, h1, h2, h3, _, L, rfl, ⟨rfl, N⟩, hq⟩ := rm0 l s _ hw tables_1 i0 i1 i2 i3 i4 s.heap s.heap.size (Nat.le_refl _) p e ha hc hk s m _ below hf ((Spec.applies_iff_loose hf).mp happ).1 ⟨rfl, State.Warmed39.refl s, rfl⟩ trivial
  refine ⟨n, _, h1, h2, h3, hpost _ _ _ _ _ _ ⟨Cond.after_iff.mpr rfl, Cond.after_iff.mpr (eq_i res_at (Term.int_eval (1)) rfl), trivial⟩ ⟨hq.1, hq.2.1, (hq.2.2.sift fun y hy => Or.inr (N y hy)).mono (by decide) (by decide)⟩⟩
theorem main_1_1 : Claimed_1_1 := comes_1 fun _ _ _ _ _ _ h hF => ⟨h.1, hF⟩
theorem main_1_2 : Claimed_1_2 := comes_1 fun _ _ _ _ _ _ h hF => ⟨h.2.1, hF⟩
end Jvm.Pilot.@@N@@
namespace Jvm.Pilot.@@N@@
open Jvm Jvm.ClassFile Sem Op Lib Jvm.Free Jvm.Stand Jvm.Pilot.@@N@@.Jvm.D
/-! MADE BY PROGRAM (witnessworld.py) out of the Statement's table words and the real class files: 10 classes; the members and pool entries that the words name. The judged class is class 1, her method 1. -/
namespace start1
open Jvm.ClassFile
def u (s : String) : CpInfo := .utf8 (stringToUtf16 s)
/-- a pool by its gaps: so many unusable entries, then the entry; so many at the end -/
def gap : Nat → List CpInfo → List CpInfo
  | 0, r => r
  | n + 1, r => .unusable :: gap n r
def poolList (es : List (Nat × CpInfo)) (last : Nat) : List CpInfo := es.foldr (fun e r => gap e.1 (e.2 :: r)) (gap last [])
def pool (es : List (Nat × CpInfo)) (last : Nat) : Array CpInfo := ⟨poolList es last⟩
def fileOf (pool : Array CpInfo) (this : Nat) (attrs : Array Attribute := #[]) (ms : Array MethodInfo := #[]) (fl : Nat := 33) (sup : Nat := 0) (ifs : Array Nat := #[]) (fds : Array FieldInfo := #[]) : ClassFile where
  minorVersion := 0
  majorVersion := 65
  constantPool := pool
  accessFlags := fl
  thisClass := this
  superClass := sup
  interfaces := ifs
  fields := fds
  methods := ms
  attributes := attrs
def plain (name : String) (sup : Option ClassId) : Class where
  name := name
  kind := .ordinary
  loader := none
  accessFlags := 33
  super := sup
  interfaces := #[]
  cf := none
  fields := #[]
  methods := #[]
  instanceTypes := #[]
  staticTypes := #[]
  resolved := #[]
  callSites := []
  init := .initialized
  statics := none
  mirror := none

def pool0 : Array CpInfo := pool [(5, u "<init>"), (0, u "()V"), (1, .class_ 10), (1, u "java/lang/Object")] 113

def k0c0 : Code := { maxStack := 0, maxLocals := 1, code := object_method_1_code, exceptionTable := #[], attributes := #[] }
def k0m0 : Method := { name := "<init>", desc := "()V", sig := { parameters := [], returnType := none }, accessFlags := 1, code := some k0c0 }
/-- java/lang/Object -/
def k0 : Class := { plain "java/lang/Object" none with
  accessFlags := 33
  interfaces := #[]
  cf := some (fileOf pool0 8 #[] #[{ accessFlags := 1, nameIndex := 5, descriptorIndex := 6, attributes := #[] }] 33 0 #[] #[])
  fields := #[]
  methods := #[k0m0]
  instanceTypes := #[]
  staticTypes := #[]
  resolved := Array.replicate 124 none
  statics := none }

def pool1 : Array CpInfo := pool [(2, .class_ 4), (1, u "java/lang/Object"), (0, u "<init>"), (0, u "()V"), (0, .long 999999999), (3, .long 9223372036854775807), (1, .class_ 14), (0, u "com/example/kurslot/kurslot/matching/HiddenLimits"), (0, .methodref 13 16), (0, .nameAndType 5 17), (0, u "(JJ)V"), (0, .methodref 13 19), (0, .nameAndType 20 21), (0, u "allows"), (0, u "(JJ)Z"), (0, .class_ 23), (0, u "com/example/kurslot/kurslot/matching/HiddenLimitsAllowsPinLaw"), (2, u "law"), (0, u "(JJJJI)Z")] 3

def k1m0 : Method := { name := "<init>", desc := "()V", sig := { parameters := [], returnType := none }, accessFlags := 1, code := none }
def k1c1 : Code := { maxStack := 6, maxLocals := 23, code := code, exceptionTable := #[], attributes := #[] }
def k1m1 : Method := { name := "law", desc := "(JJJJI)Z", sig := { parameters := [.long, .long, .long, .long, .int], returnType := some .boolean }, accessFlags := 9, code := some k1c1 }
/-- com/example/kurslot/kurslot/matching/HiddenLimitsAllowsPinLaw -/
def k1 : Class := { plain "com/example/kurslot/kurslot/matching/HiddenLimitsAllowsPinLaw" (some 0) with
  accessFlags := 49
  interfaces := #[]
  cf := some (fileOf pool1 22 #[] #[{ accessFlags := 1, nameIndex := 5, descriptorIndex := 6, attributes := #[] }, { accessFlags := 9, nameIndex := 26, descriptorIndex := 27, attributes := #[] }] 49 2 #[] #[])
  fields := #[]
  methods := #[k1m0, k1m1]
  instanceTypes := #[]
  staticTypes := #[]
  resolved := Array.replicate 31 none
  statics := none }

def pool2 : Array CpInfo := pool [(1, .methodref 2 3), (0, .class_ 4), (0, .nameAndType 5 6), (0, u "java/lang/Object"), (0, u "<init>"), (0, u "()V"), (0, .class_ 8), (0, u "java/lang/Record")] 13

def k2c0 : Code := { maxStack := 1, maxLocals := 1, code := jdk_30_method_1_code, exceptionTable := #[], attributes := #[] }
def k2m0 : Method := { name := "<init>", desc := "()V", sig := { parameters := [], returnType := none }, accessFlags := 4, code := some k2c0 }
/-- java/lang/Record -/
def k2 : Class := { plain "java/lang/Record" (some 0) with
  accessFlags := 1057
  interfaces := #[]
  cf := some (fileOf pool2 7 #[] #[{ accessFlags := 4, nameIndex := 5, descriptorIndex := 6, attributes := #[] }] 1057 2 #[] #[])
  fields := #[]
  methods := #[k2m0]
  instanceTypes := #[]
  staticTypes := #[]
  resolved := Array.replicate 22 none
  statics := none }

def pool3 : Array CpInfo := pool [(1, .methodref 2 3), (0, .class_ 4), (0, .nameAndType 5 6), (0, u "java/lang/Record"), (0, u "<init>"), (0, u "()V"), (2, .long 999999999), (10, .fieldref 21 22), (0, .class_ 23), (0, .nameAndType 24 25), (0, u "com/example/kurslot/kurslot/matching/HiddenLimits"), (0, u "minShow"), (0, u "J"), (0, .fieldref 21 27), (0, .nameAndType 28 25), (0, u "maxRatio"), (14, u "(JJ)V"), (2, u "DEFAULT"), (0, u "Lcom/example/kurslot/kurslot/matching/HiddenLimits;"), (4, u "allows"), (0, u "(JJ)Z")] 34

def k3c0 : Code := { maxStack := 6, maxLocals := 5, code := prog_39_method_1_code, exceptionTable := #[], attributes := #[] }
def k3m0 : Method := { name := "<init>", desc := "(JJ)V", sig := { parameters := [.long, .long], returnType := none }, accessFlags := 1, code := some k3c0 }
def k3c1 : Code := { maxStack := 6, maxLocals := 5, code := prog_39_method_2_code, exceptionTable := #[], attributes := #[] }
def k3m1 : Method := { name := "allows", desc := "(JJ)Z", sig := { parameters := [.long, .long], returnType := some .boolean }, accessFlags := 1, code := some k3c1 }
/-- com/example/kurslot/kurslot/matching/HiddenLimits -/
def k3 : Class := { plain "com/example/kurslot/kurslot/matching/HiddenLimits" (some 2) with
  accessFlags := 49
  interfaces := #[]
  cf := some (fileOf pool3 21 #[] #[{ accessFlags := 1, nameIndex := 5, descriptorIndex := 43, attributes := #[] }, { accessFlags := 1, nameIndex := 52, descriptorIndex := 53, attributes := #[] }] 49 2 #[] #[{ accessFlags := 18, nameIndex := 24, descriptorIndex := 25, attributes := #[] }, { accessFlags := 18, nameIndex := 28, descriptorIndex := 25, attributes := #[] }, { accessFlags := 25, nameIndex := 46, descriptorIndex := 47, attributes := #[] }])
  fields := #[{ name := "minShow", type := .long, accessFlags := 18, slot := 0, constantValue := 0 }, { name := "maxRatio", type := .long, accessFlags := 18, slot := 1, constantValue := 0 }, { name := "DEFAULT", type := (.object "com/example/kurslot/kurslot/matching/HiddenLimits"), accessFlags := 25, slot := 0, constantValue := 0 }]
  methods := #[k3m0, k3m1]
  instanceTypes := #[.long, .long]
  staticTypes := #[(.object "com/example/kurslot/kurslot/matching/HiddenLimits")]
  resolved := Array.replicate 88 none
  statics := none }

def pool4 : Array CpInfo := pool [(1, u "java/lang/Cloneable"), (0, .class_ 1), (0, u "java/lang/Object"), (0, .class_ 3)] 3

/-- java/lang/Cloneable -/
def k4 : Class := { plain "java/lang/Cloneable" (some 0) with
  accessFlags := 1537
  interfaces := #[]
  cf := some (fileOf pool4 2 #[] #[] 1537 4 #[] #[])
  fields := #[]
  methods := #[]
  instanceTypes := #[]
  staticTypes := #[]
  resolved := Array.replicate 8 none
  statics := none }

def pool5 : Array CpInfo := pool [(1, u "java/io/Serializable"), (0, .class_ 1), (0, u "java/lang/Object"), (0, .class_ 3)] 3

/-- java/io/Serializable -/
def k5 : Class := { plain "java/io/Serializable" (some 0) with
  accessFlags := 1537
  interfaces := #[]
  cf := some (fileOf pool5 2 #[] #[] 1537 4 #[] #[])
  fields := #[]
  methods := #[]
  instanceTypes := #[]
  staticTypes := #[]
  resolved := Array.replicate 8 none
  statics := none }

/-- the primitive byte -/
def k6 : Class := { plain "byte" none with kind := .primitive 'B', accessFlags := 0x411 }
/-- [B -/
def k7 : Class := { plain "[B" (some 0) with kind := .array 6 .byte, interfaces := #[4, 5], accessFlags := 1041 }

/-- the primitive int -/
def k8 : Class := { plain "int" none with kind := .primitive 'I', accessFlags := 0x411 }
/-- [I -/
def k9 : Class := { plain "[I" (some 0) with kind := .array 8 .int, interfaces := #[4, 5], accessFlags := 1041 }

def heap : Heap := #[]
def classes : Array Class := #[k0, k1, k2, k3, k4, k5, k6, k7, k8, k9]
def interned : List (Array UInt16 × Addr) := []
def slotsUsed : Nat := 0
def theMethod : MethodId := ⟨1, 1⟩
def args0 : Array Value := #[.long 5, .long 7, .long 8, .long 9, .int 1]
def aboutOver (below : List Frame) : State where
  vm := { classes := classes, interned := interned.toArray }
  heap := heap
  slotsUsed := slotsUsed
  threads := #[{ frames := .invoking theMethod args0 :: below }]
def below0 : List Frame := [.native { method := ⟨0, 0⟩, args := #[] }]
def about1 : State := aboutOver below0
def p0 : Program := .bare "" "" ""
def e0 : Env := launch0.env 0 0 0
theorem w_frames : about1.frames = Frame.invoking theMethod args0 :: below0 := rfl
set_option maxRecDepth 65536 in
theorem w_args : argsFit about1.vm theMethod args0 = true := by decide +kernel
set_option maxRecDepth 65536 in
theorem w_heap : heapFits about1 = true := by decide +kernel
set_option maxRecDepth 65536 in
theorem w_runnable : about1.curStatus? = some .runnable := by decide +kernel
set_option maxRecDepth 65536 in
theorem w_alone : about1.alone = true := by decide +kernel
set_option maxRecDepth 65536 in
theorem w_named : about1.methodNamed? x = some theMethod := by decide +kernel
set_option maxRecDepth 65536 in
theorem w_hears : about1.hears theMethod below0 = true := by decide +kernel
set_option maxRecDepth 65536 in
theorem w_ripe : about1.ripe theMethod args0 below0 = true := by decide +kernel
theorem w_running : about1.status = .running := rfl
set_option maxRecDepth 65536 in
theorem w_room : about1.hasRoom e0.platform room_1 = true :=
  launch0.hasRoom_least _ room_1 (by decide +kernel) (by decide +kernel) (by decide +kernel) (by decide +kernel) (by decide +kernel) (by decide +kernel)
theorem allAtoms_all (ts : List Jvm.Cond) (a : Array Jvm.Value) (st : Jvm.State) : (allAtoms ts).before a st = ts.all (fun c => c.before a st) := by
  induction ts with
  | nil => rfl
  | cons c t ih =>
    show (Jvm.Cond.and c (allAtoms t)).before a st = _
    rw [Jvm.Cond.before_and, ih, List.all_cons]
def words1 : List Jvm.Cond := Jvm.Cond.code x code maxLocals ret :: tables_1
/-- a 'code' word, met by the world's own term for the bytes: nothing is compared byte by byte -/
theorem code_word {y : MethodName} {bytes : ByteArray} {mx : Nat} {rt : Option FieldType} {a : Array Value} {s : State} {m : MethodId} {meth : Method} {c : Code} (h1 : s.methodNamed? y = some m) (h2 : s.vm.method? m = some meth) (h3 : meth.code = some c) (h4 : c.code = bytes)
    (h5 : (c.maxLocals == mx && c.exceptionTable.isEmpty && decide (c.maxStack ≤ mostOperands) && decide (meth.sig.returnType = rt) && !meth.locks && decide (parseMethodDescriptor y.desc = some meth.sig)) = true) : (Jvm.Cond.code y bytes mx rt).before a s = true := by
  simp only [Bool.and_eq_true, beq_iff_eq, Bool.not_eq_true', decide_eq_true_eq] at h5
  obtain ⟨⟨⟨⟨⟨g1, g2⟩, g3⟩, g4⟩, g5⟩, g6⟩ := h5
  simp [Cond.before, Cond.holds, Cond.value, h1, h2, h3, h4, g1, g2, g3, g4, g5, g6]
def isCode : Jvm.Cond → Bool
  | .code _ _ _ _ => true
  | _ => false
theorem all_split {L : List Jvm.Cond} {P : Jvm.Cond → Bool} (h1 : L.all (fun c => isCode c || P c) = true) (h2 : ∀ c ∈ L.filter isCode, P c = true) : L.all P = true := by
  refine List.all_eq_true.mpr fun c hc => ?_
  have h := List.all_eq_true.mp h1 c hc
  rcases Bool.eq_false_or_eq_true (isCode c) with hi | hi
  · exact h2 c (List.mem_filter.mpr ⟨hc, hi⟩)
  · simpa [hi] using h
set_option maxRecDepth 65536 in
theorem w_c0 : (Jvm.Cond.code x code maxLocals ret).before args0 about1 = true := code_word (m := ⟨1, 1⟩) (meth := k1m1) (c := k1c1) (by decide +kernel) rfl rfl rfl (by decide +kernel)
set_option maxRecDepth 65536 in
theorem w_c1 : (Jvm.Cond.code ({ cls := "com/example/kurslot/kurslot/matching/HiddenLimits", name := "<init>", desc := "(JJ)V" } : Jvm.MethodName) prog_39_method_1_code (5 : Nat) (Option.none : Option Jvm.ClassFile.FieldType)).before args0 about1 = true := code_word (m := ⟨3, 0⟩) (meth := k3m0) (c := k3c0) (by decide +kernel) rfl rfl rfl (by decide +kernel)
set_option maxRecDepth 65536 in
theorem w_c2 : (Jvm.Cond.code ({ cls := "java/lang/Record", name := "<init>", desc := "()V" } : Jvm.MethodName) jdk_30_method_1_code (1 : Nat) (Option.none : Option Jvm.ClassFile.FieldType)).before args0 about1 = true := code_word (m := ⟨2, 0⟩) (meth := k2m0) (c := k2c0) (by decide +kernel) rfl rfl rfl (by decide +kernel)
set_option maxRecDepth 65536 in
theorem w_c3 : (Jvm.Cond.code ({ cls := "java/lang/Object", name := "<init>", desc := "()V" } : Jvm.MethodName) object_method_1_code (1 : Nat) (Option.none : Option Jvm.ClassFile.FieldType)).before args0 about1 = true := code_word (m := ⟨0, 0⟩) (meth := k0m0) (c := k0c0) (by decide +kernel) rfl rfl rfl (by decide +kernel)
set_option maxRecDepth 65536 in
theorem w_c4 : (Jvm.Cond.code ({ cls := "com/example/kurslot/kurslot/matching/HiddenLimits", name := "allows", desc := "(JJ)Z" } : Jvm.MethodName) prog_39_method_2_code (5 : Nat) (Option.some Jvm.ClassFile.FieldType.boolean)).before args0 about1 = true := code_word (m := ⟨3, 1⟩) (meth := k3m1) (c := k3c1) (by decide +kernel) rfl rfl rfl (by decide +kernel)
def codes1 : List Jvm.Cond := [Jvm.Cond.code x code maxLocals ret, Jvm.Cond.code ({ cls := "com/example/kurslot/kurslot/matching/HiddenLimits", name := "<init>", desc := "(JJ)V" } : Jvm.MethodName) prog_39_method_1_code (5 : Nat) (Option.none : Option Jvm.ClassFile.FieldType), Jvm.Cond.code ({ cls := "java/lang/Record", name := "<init>", desc := "()V" } : Jvm.MethodName) jdk_30_method_1_code (1 : Nat) (Option.none : Option Jvm.ClassFile.FieldType), Jvm.Cond.code ({ cls := "java/lang/Object", name := "<init>", desc := "()V" } : Jvm.MethodName) object_method_1_code (1 : Nat) (Option.none : Option Jvm.ClassFile.FieldType), Jvm.Cond.code ({ cls := "com/example/kurslot/kurslot/matching/HiddenLimits", name := "allows", desc := "(JJ)Z" } : Jvm.MethodName) prog_39_method_2_code (5 : Nat) (Option.some Jvm.ClassFile.FieldType.boolean)]
set_option maxRecDepth 65536 in
theorem codes_eq : words1.filter isCode = codes1 := rfl
theorem w_codes : ∀ c ∈ words1.filter isCode, c.before args0 about1 = true := by
  rw [codes_eq]
  intro c hc
  simp only [codes1, List.mem_cons, List.not_mem_nil, or_false] at hc
  rcases hc with rfl | rfl | rfl | rfl | rfl
  · exact w_c0
  · exact w_c1
  · exact w_c2
  · exact w_c3
  · exact w_c4
set_option maxRecDepth 65536 in
theorem w_t1 : (words1.take 24).all (fun c => isCode c || c.before args0 about1) = true := by decide +kernel
set_option maxRecDepth 65536 in
theorem w_t2 : (words1.drop 24).all (fun c => isCode c || c.before args0 about1) = true := by decide +kernel
theorem w_tables : (allAtoms (Jvm.Cond.code x code maxLocals ret :: tables_1)).before args0 about1 = true := by
  rw [allAtoms_all]
  show words1.all (fun c => c.before args0 about1) = true
  refine all_split ?_ w_codes
  rw [← List.take_append_drop 24 words1, List.all_append, w_t1, w_t2]
  rfl
set_option maxRecDepth 65536 in
theorem w_case : (Jvm.Cond.and given_1 narrow_1).before args0 about1 = true := by decide +kernel
theorem w_applies : (headSpec (Jvm.Cond.code x code maxLocals ret :: tables_1) room_1).applies x e0.platform about1 = true :=
  (Spec.applies_iff w_frames).mpr ⟨w_running, w_runnable, w_alone, w_named, w_hears, w_ripe, w_room, w_tables⟩
theorem atStart : AtStart classFile x code maxLocals ret World_1 tables_1 room_1 Calls_1 rest_1 Pre_1 launch0 p0 e0 about1 theMethod args0 below0 :=
  ⟨lists_1, trivial, launch0.admits_env _ _ _, launch0.least_env, fairChoices_fair.cas, fairChoices_fair.clock, w_frames, w_args, w_heap, w_applies, trivial, trivial, w_case⟩
end start1
theorem witness_1 : WitnessClaimed_1 := ⟨start1.p0, start1.e0, start1.about1, start1.theMethod, start1.args0, start1.below0, start1.atStart⟩
end Jvm.Pilot.@@N@@
