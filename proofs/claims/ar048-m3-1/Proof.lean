import JvmDerived
import JvmDerived.Pilot.@@N@@Statement
import JvmDerived.Pilot.@@N@@Code
set_option linter.unusedVariables false
set_option linter.unusedSimpArgs false
namespace Jvm.RoadKit
open Sem ClassFile Op Lib Jvm.Stand Jvm.Free Jvm.LawKit
section OwnKit
variable {p : Program} {l : Launch} {e : Env} {R : Room} {s : State} {m : MethodId} {args : Array Value} {below : List Frame} {meth : Method} {c : Code} {T : State} {locs : List Loc} {cells slots : Nat} {Z : State} {a0 : Array Value} {h h' : Heap}
/-- from this frame on the method ends, and Post says how -/
def own_Fin (p : Program) (e : Env) (below : List Frame) (Post : Outcome → State → Prop) (T : State) (g : JFrame) : Prop :=
  ∃ (t : State) (o : Outcome), Steps p.tables e below (T.setTop g) t ∧ t.status = .running ∧ Ended t below o ∧ Post o t
theorem own_step {Post : Outcome → State → Prop} {T T' : State} {g g' : JFrame} (st : ∀ t, Steps p.tables e below (T'.setTop g') t → Steps p.tables e below (T.setTop g) t) (k : own_Fin p e below Post T' g') : own_Fin p e below Post T g := by
  obtain ⟨t, o, a, b⟩ := k
  exact ⟨t, o, st _ a, b⟩
abbrev own_PostN (s : State) (rm : Room) (Q : Option Value → Heap → List Loc → Prop) : Outcome → State → Prop := fun o U' => ∃ v L, o = .returned v ∧ Q v U'.heap L ∧ FrameEnd s o U' L rm.cells rm.slots
/-- a body's contract: for these arguments, at this heap, over tables warmer than Z's -/
def own_Con (l : Launch) (Z : State) (y : MethodName) (bytes : ByteArray) (maxL : Nat) (ret : Option FieldType) (rm : Room) (as' : Array Value) (h : Heap) (Q : Option Value → Heap → List Loc → Prop) : Prop :=
  ∀ ws : List Cond, MetFree l y (head1 (Cond.code y bytes maxL ret :: ws) rm) (fun a U => a = as' ∧ Z.Warmed39 U.vm ∧ U.heap = h) (fun _ _ _ _ _ => True) (fun _ U o U' => ∃ v L, o = .returned v ∧ Q v U'.heap L ∧ FrameEnd U o U' L rm.cells rm.slots)
theorem own_con {y : MethodName} {bytes : ByteArray} {maxL : Nat} {ret : Option FieldType} {rm : Room} {as' : Array Value} {Q : Option Value → Heap → List Loc → Prop} {ls : Array Slot} (hpl : plainFor y = true) (ef : ∀ m, entryFrame m as' maxL = mkF m 0 ls [])
    (body : ∀ (p : Program) (e : Env) (s : State) (m : MethodId) (below : List Frame) (meth : Method) (c : Code) (s₁ : State), p.tables.exec = Jvm.exec → c.code = bytes → c.maxLocals = maxL → s.vm.findClass y.cls = some m.cls → meth.name = y.name → meth.sig.returnType = ret → meth.locks = false → Z.Warmed39 s.vm →
      Stand p l e rm s m as' below meth c s₁ [] 0 0 → s₁.heap = h → own_Fin p e below (own_PostN s rm Q) s₁ (mkF m 0 ls [])) : own_Con l Z y bytes maxL ret rm as' h Q := by
  intro ws
  refine MetFree.of_bodySF hpl hisR ?_
  intro p e s m args below meth c s₁ Bd hml0 hP hK
  obtain ⟨rfl, hZ, hh⟩ := hP
  have k := body p e s m below meth c s₁ Bd.exec Bd.bytes hml0 (findClass_of_methodNamed Bd.named) (name_of_methodNamed Bd.named Bd.method).1 Bd.returns Bd.notSynchronized hZ (Stand.of_body Bd) (by rw [← hh, Bd.state]; rfl)
  rw [← ef m] at k
  exact k
theorem own_ret {rm : Room} {Q : Option Value → Heap → List Loc → Prop} (X : Stand p l e R s m args below meth c T locs cells slots) (hlk : meth.locks = false) {v : Option Value} (hv : meth.sig.returnType = none → v = none) {g : JFrame}
    (st : ∀ fs, (∀ (f : JFrame) (acts : List Action), f.method = m → f.locked = none → f.entered = [] → (doReturn e (T.setTop f) acts v).1 = T.setFrames fs) → Steps p.tables e below (T.setTop g) (T.setFrames fs))
    (eT : T.heap = h) (hQ : Q v h locs) (hc : cells ≤ rm.cells) (hs : slots ≤ rm.slots) : own_Fin p e below (own_PostN s rm Q) T g := by
  obtain ⟨fs, hr, hrun, hended, hW, hsame⟩ := X.leave (v := v) hv hlk
  refine ⟨_, _, st fs hr, hrun, hended, v, locs, rfl, ?_, ⟨_, rfl⟩, hW, hsame.mono hc hs⟩
  show Q v T.heap locs
  rw [eT]; exact hQ
theorem own_retV {rm : Room} {Q : Option Value → Heap → List Loc → Prop} (X : Stand p l e R s m args below meth c T locs cells slots) (hx : p.tables.exec = Jvm.exec) (hlk : meth.locks = false) (hret : meth.sig.returnType = none) {pc : Nat} {Ls : Array Slot} (hd : decode c.code pc = .ok (.return_, 1))
    (eT : T.heap = h) (hQ : Q none h locs) (hc : cells ≤ rm.cells) (hs : slots ≤ rm.slots) : own_Fin p e below (own_PostN s rm Q) T (mkF m pc Ls []) :=
  own_ret X hlk (fun _ => rfl) (fun fs hr => X.returnOut hx hret hd hr) eT hQ hc hs
theorem own_retN {rm : Room} {Q : Option Value → Heap → List Loc → Prop} (X : Stand p l e R s m args below meth c T locs cells slots) (hx : p.tables.exec = Jvm.exec) (hlk : meth.locks = false) {t : FieldType} (hret : meth.sig.returnType = some t) (ht : t = .boolean ∨ t = .byte ∨ t = .char ∨ t = .short) {pc : Nat} {Ls : Array Slot} {z : Int32} {rest : List Value} (hd : decode c.code pc = .ok (.ireturn, 1))
    (eT : T.heap = h) (hQ : Q (some (.int (nar t z))) h locs) (hc : cells ≤ rm.cells) (hs : slots ≤ rm.slots) : own_Fin p e below (own_PostN s rm Q) T (mkF m pc Ls (.int z :: rest)) :=
  own_ret X hlk (fun q => by rw [hret] at q; cases q) (fun fs hr => retN X hx hret ht hd hr) eT hQ hc hs
theorem own_retI {rm : Room} {Q : Option Value → Heap → List Loc → Prop} (X : Stand p l e R s m args below meth c T locs cells slots) (hx : p.tables.exec = Jvm.exec) (hlk : meth.locks = false) (hret : meth.sig.returnType = some .int) {pc : Nat} {Ls : Array Slot} {z : Int32} {rest : List Value} (hd : decode c.code pc = .ok (.ireturn, 1))
    (eT : T.heap = h) (hQ : Q (some (.int z)) h locs) (hc : cells ≤ rm.cells) (hs : slots ≤ rm.slots) : own_Fin p e below (own_PostN s rm Q) T (mkF m pc Ls (.int z :: rest)) :=
  own_ret X hlk (fun q => by rw [hret] at q; cases q) (fun fs hr => retOut X hx hret rfl (Or.inl ⟨rfl, Or.inl rfl, z, rfl⟩) hd hr) eT hQ hc hs
theorem own_retL {rm : Room} {Q : Option Value → Heap → List Loc → Prop} (X : Stand p l e R s m args below meth c T locs cells slots) (hx : p.tables.exec = Jvm.exec) (hlk : meth.locks = false) (hret : meth.sig.returnType = some .long) {pc : Nat} {Ls : Array Slot} {z : Int64} {rest : List Value} (hd : decode c.code pc = .ok (.lreturn, 1))
    (eT : T.heap = h) (hQ : Q (some (.long z)) h locs) (hc : cells ≤ rm.cells) (hs : slots ≤ rm.slots) : own_Fin p e below (own_PostN s rm Q) T (mkF m pc Ls (.long z :: rest)) :=
  own_ret X hlk (fun q => by rw [hret] at q; cases q) (fun fs hr => retOut X hx hret rfl (Or.inr (Or.inl ⟨rfl, rfl, z, rfl⟩)) hd hr) eT hQ hc hs
theorem own_retA {rm : Room} {Q : Option Value → Heap → List Loc → Prop} (X : Stand p l e R s m args below meth c T locs cells slots) (hx : p.tables.exec = Jvm.exec) (hlk : meth.locks = false) {t : FieldType} (hret : meth.sig.returnType = some t) {w : Value} (hn : narrow t w = w) (ht : t.isReference = true) (hw : w.isRef = true) {pc : Nat} {Ls : Array Slot} {rest : List Value} (hd : decode c.code pc = .ok (.areturn, 1))
    (eT : T.heap = h) (hQ : Q (some w) h locs) (hc : cells ≤ rm.cells) (hs : slots ≤ rm.slots) : own_Fin p e below (own_PostN s rm Q) T (mkF m pc Ls (w :: rest)) :=
  own_ret X hlk (fun q => by rw [hret] at q; cases q) (fun fs hr => retOut X hx hret hn (Or.inr (Or.inr (Or.inr (Or.inr ⟨rfl, ht, hw⟩)))) hd hr) eT hQ hc hs
/-- a constructor, by its contract -/
theorem own_callC {y : MethodName} {bytes : ByteArray} {maxL : Nat} {rm : Room} {Q : Option Value → Heap → List Loc → Prop} {own : String} {index W : Nat} (X : Stand p l e R s m args below meth c T locs cells slots) (hx : p.tables.exec = Jvm.exec) (hZ : Z.Warmed39 s.vm) (hown : s.vm.findClass own = some m.cls) (hy1 : y.name = "<init>")
    (w1 : (Cond.methodLink own index y).before a0 Z = true) (w2 : (Cond.instanceMethod y).before a0 Z = true) (wc : (Cond.code y bytes maxL none).before a0 Z = true) (wz : (Cond.initialized y.cls).before a0 Z = true) (hy : y.cls ≠ "java/lang/invoke/MethodHandle" ∧ y.cls ≠ "java/lang/invoke/VarHandle")
    {a : Addr} {g : JFrame} (hg : g.method = m) (hsize : g.locals.size = c.maxLocals) {argsL rest : List Value} (K : own_Con l Z y bytes maxL none rm (.ref a :: argsL).toArray h Q) (eT : T.heap = h) {ps : List FieldType} {r : Option FieldType} (hpd : parseMethodDescriptor y.desc = some ⟨ps, r⟩) (hlen : argsL.length = ps.length) (hstack : g.stack = argsL.reverse ++ .ref a :: rest) (hW : 2 * g.monitorRoom + (rest.map fun v => v.category).sum ≤ W)
    (hdg : decode c.code g.pc = .ok (.invokespecial index, 3)) (hf : rm.frames + 1 ≤ R.frames) (hl : W + (maxL + 11) + rm.locals ≤ R.locals) (hcc : cells + rm.cells ≤ R.cells) (hss : slots + rm.slots ≤ R.slots) :
    ∃ (T' : State) (L : List Loc) (v : Option Value) (h' : Heap), Stand p l e R s m args below meth c T' (locs ++ L) (cells + rm.cells) (slots + rm.slots) ∧ T'.heap = h' ∧ Q v h' L ∧ ∀ t, Steps p.tables e below (T'.setTop { g with pc := g.pc + 3, stack := v.toList ++ rest }) t → Steps p.tables e below (T.setTop g) t := by
  obtain ⟨v, _, ⟨T', L', k', n'⟩, -, X', ⟨L, hQ, l1, l2, l3⟩, st⟩ := X.specialBack hx hy1 hown (mvT hZ w1) (mvT hZ w2) (mvT hZ wc) hy (backOf (K []) hZ wc wz hf hl) hg hsize (Steps.refl _) (a := a) (argsL := argsL) (rest := rest) (lenOf hpd hlen) hstack hW hdg (fun _ _ => ⟨rfl, eT, hcc, hss⟩)
  dsimp only [Pt.U, Pt.locs, Pt.cells, Pt.slots] at X' l1 l2 l3 st hQ
  subst l1 l2 l3
  exact ⟨T', L, v, _, X', rfl, hQ, fun t k => st.trans k⟩
/-- a static method, by its contract -/
theorem own_callS {y : MethodName} {bytes : ByteArray} {maxL : Nat} {ret : Option FieldType} {rm : Room} {Q : Option Value → Heap → List Loc → Prop} {own : String} {index W : Nat} (X : Stand p l e R s m args below meth c T locs cells slots) (hx : p.tables.exec = Jvm.exec) (hZ : Z.Warmed39 s.vm) (hown : s.vm.findClass own = some m.cls)
    (w1 : (Cond.methodLink own index y).before a0 Z = true) (w2 : (Cond.static y).before a0 Z = true) (wc : (Cond.code y bytes maxL ret).before a0 Z = true) (wz : (Cond.initialized y.cls).before a0 Z = true) (hy : y.cls ≠ "java/lang/invoke/MethodHandle" ∧ y.cls ≠ "java/lang/invoke/VarHandle")
    {g : JFrame} (hg : g.method = m) (hsize : g.locals.size = c.maxLocals) {argsL rest : List Value} (K : own_Con l Z y bytes maxL ret rm argsL.toArray h Q) (eT : T.heap = h) {ps : List FieldType} {r : Option FieldType} (hpd : parseMethodDescriptor y.desc = some ⟨ps, r⟩) (hlen : argsL.length = ps.length) (hstack : g.stack = argsL.reverse ++ rest) (hW : 2 * g.monitorRoom + (rest.map fun v => v.category).sum ≤ W)
    (hdg : decode c.code g.pc = .ok (.invokestatic index, 3)) (hf : rm.frames + 1 ≤ R.frames) (hl : W + (maxL + 11) + rm.locals ≤ R.locals) (hcc : cells + rm.cells ≤ R.cells) (hss : slots + rm.slots ≤ R.slots) :
    ∃ (T' : State) (L : List Loc) (v : Option Value) (h' : Heap), Stand p l e R s m args below meth c T' (locs ++ L) (cells + rm.cells) (slots + rm.slots) ∧ T'.heap = h' ∧ Q v h' L ∧ ∀ t, Steps p.tables e below (T'.setTop { g with pc := g.pc + 3, stack := v.toList ++ rest }) t → Steps p.tables e below (T.setTop g) t := by
  obtain ⟨v, _, ⟨T', L', k', n'⟩, -, X', ⟨L, hQ, l1, l2, l3⟩, st⟩ := Jvm.LawKit.callS X hx hown (mvT hZ w1) (mvT hZ w2) (mvT hZ wz) (mvT hZ wc) hy (backOf (K []) hZ wc wz hf hl) hg hsize (argsL := argsL) (rest := rest) (lenOf hpd hlen) hstack hW hdg (fun _ _ => ⟨rfl, eT, hcc, hss⟩)
  dsimp only [Pt.U, Pt.locs, Pt.cells, Pt.slots] at X' l1 l2 l3 st hQ
  subst l1 l2 l3
  exact ⟨T', L, v, _, X', rfl, hQ, fun t k => st _ k⟩
/-- a static method that a class above declares -/
theorem own_callSU {x : MethodName} {owner : String} {bytes : ByteArray} {maxL : Nat} {ret : Option FieldType} {rm : Room} {Q : Option Value → Heap → List Loc → Prop} {own : String} {index W : Nat} (X : Stand p l e R s m args below meth c T locs cells slots) (hx : p.tables.exec = Jvm.exec) (hZ : Z.Warmed39 s.vm) (hown : s.vm.findClass own = some m.cls)
    (w1 : (Cond.methodLink own index x).before a0 Z = true) (ws : (Cond.sameMethod x.cls owner x.name x.desc).before a0 Z = true) (w2 : (Cond.static ⟨owner, x.name, x.desc⟩).before a0 Z = true) (wc : (Cond.code ⟨owner, x.name, x.desc⟩ bytes maxL ret).before a0 Z = true) (wz : (Cond.initialized owner).before a0 Z = true) (hy : owner ≠ "java/lang/invoke/MethodHandle" ∧ owner ≠ "java/lang/invoke/VarHandle")
    {g : JFrame} (hg : g.method = m) (hsize : g.locals.size = c.maxLocals) {argsL rest : List Value} (K : own_Con l Z ⟨owner, x.name, x.desc⟩ bytes maxL ret rm argsL.toArray h Q) (eT : T.heap = h) {ps : List FieldType} {r : Option FieldType} (hpd : parseMethodDescriptor x.desc = some ⟨ps, r⟩) (hlen : argsL.length = ps.length) (hstack : g.stack = argsL.reverse ++ rest) (hW : 2 * g.monitorRoom + (rest.map fun v => v.category).sum ≤ W)
    (hdg : decode c.code g.pc = .ok (.invokestatic index, 3)) (hf : rm.frames + 1 ≤ R.frames) (hl : W + (maxL + 11) + rm.locals ≤ R.locals) (hcc : cells + rm.cells ≤ R.cells) (hss : slots + rm.slots ≤ R.slots) :
    ∃ (T' : State) (L : List Loc) (v : Option Value) (h' : Heap), Stand p l e R s m args below meth c T' (locs ++ L) (cells + rm.cells) (slots + rm.slots) ∧ T'.heap = h' ∧ Q v h' L ∧ ∀ t, Steps p.tables e below (T'.setTop { g with pc := g.pc + 3, stack := v.toList ++ rest }) t → Steps p.tables e below (T.setTop g) t := by
  have wc' : (Cond.code ⟨owner, x.name, x.desc⟩ bytes maxL ret).before args s = true := mvT hZ wc
  obtain ⟨mk, hnamed⟩ := Cond.code_named wc'
  obtain ⟨methM, cM, hmethM, -, -, -, -, -, -, hsig⟩ := Cond.code_spec hnamed wc'
  obtain ⟨v, _, ⟨T', L', k', n'⟩, -, X', ⟨L, hQ, l1, l2, l3⟩, st⟩ := X.staticBackUp hx hown (mvT hZ w1) (mvT hZ ws) (mvT hZ w2) (mvT hZ wz) hnamed hmethM hsig hy (backOf (K []) hZ wc wz hf hl) hg hsize (Steps.refl _) (argsL := argsL) (rest := rest) (lenOf hpd hlen) hstack hW hdg (fun _ _ => ⟨rfl, eT, hcc, hss⟩)
  dsimp only [Pt.U, Pt.locs, Pt.cells, Pt.slots] at X' l1 l2 l3 st hQ
  subst l1 l2 l3
  exact ⟨T', L, v, _, X', rfl, hQ, fun t k => st.trans k⟩
/-- an instance method that the receiver's class selects, by its contract -/
theorem own_callV {y : MethodName} {C : String} {bytes : ByteArray} {maxL : Nat} {ret : Option FieldType} {rm : Room} {Q : Option Value → Heap → List Loc → Prop} {own : String} {index W : Nat} (X : Stand p l e R s m args below meth c T locs cells slots) (hx : p.tables.exec = Jvm.exec) (hZ : Z.Warmed39 s.vm) (hown : s.vm.findClass own = some m.cls)
    (w1 : (Cond.methodLink own index y).before a0 Z = true) (wd : (Cond.declares y).before a0 Z = true) (wsel : (Cond.selects C y y).before a0 Z = true) (w2 : (Cond.instanceMethod y).before a0 Z = true) (wc : (Cond.code y bytes maxL ret).before a0 Z = true) (wz : (Cond.initialized y.cls).before a0 Z = true) (hy : y.cls ≠ "java/lang/invoke/MethodHandle" ∧ y.cls ≠ "java/lang/invoke/VarHandle")
    {a : Addr} (E : Exa Z h a C) {g : JFrame} (hg : g.method = m) (hsize : g.locals.size = c.maxLocals) {argsL rest : List Value} (K : own_Con l Z y bytes maxL ret rm (.ref a :: argsL).toArray h Q) (eT : T.heap = h) {ps : List FieldType} {r : Option FieldType} (hpd : parseMethodDescriptor y.desc = some ⟨ps, r⟩) (hlen : argsL.length = ps.length) (hstack : g.stack = argsL.reverse ++ .ref a :: rest) (hW : 2 * g.monitorRoom + (rest.map fun v => v.category).sum ≤ W)
    (hdg : decode c.code g.pc = .ok (.invokevirtual index, 3)) (hf : rm.frames + 1 ≤ R.frames) (hl : W + (maxL + 11) + rm.locals ≤ R.locals) (hcc : cells + rm.cells ≤ R.cells) (hss : slots + rm.slots ≤ R.slots) :
    ∃ (T' : State) (L : List Loc) (v : Option Value) (h' : Heap), Stand p l e R s m args below meth c T' (locs ++ L) (cells + rm.cells) (slots + rm.slots) ∧ T'.heap = h' ∧ Q v h' L ∧ ∀ t, Steps p.tables e below (T'.setTop { g with pc := g.pc + 3, stack := v.toList ++ rest }) t → Steps p.tables e below (T.setTop g) t := by
  obtain ⟨cB, kB, q1, q2, q3⟩ := isOf hZ eT E
  obtain ⟨v, _, ⟨T', L', k', n'⟩, -, X', ⟨L, hQ, l1, l2, l3⟩, st⟩ := X.virtualBack hx hown (mvT hZ w1) (mvT hZ wd) (notFace_of_selects (args := #[]) (mvT hZ wsel)) (mvT hZ wsel) (mvT hZ w2) hy (backOf (K []) hZ wc wz hf hl) q1 q3 hg hsize (Steps.refl _) (argsL := argsL) (rest := rest) (lenOf hpd hlen) hstack hW hdg (fun _ _ => ⟨rfl, eT, hcc, hss⟩)
  dsimp only [Pt.U, Pt.locs, Pt.cells, Pt.slots] at X' l1 l2 l3 st hQ
  subst l1 l2 l3
  exact ⟨T', L, v, _, X', rfl, hQ, fun t k => st.trans k⟩
/-- .. that a class above the named one declares -/
theorem own_callVU {x : MethodName} {C owner : String} {bytes : ByteArray} {maxL : Nat} {ret : Option FieldType} {rm : Room} {Q : Option Value → Heap → List Loc → Prop} {own : String} {index W : Nat} (X : Stand p l e R s m args below meth c T locs cells slots) (hx : p.tables.exec = Jvm.exec) (hZ : Z.Warmed39 s.vm) (hown : s.vm.findClass own = some m.cls)
    (w1 : (Cond.methodLink own index x).before a0 Z = true) (ws : (Cond.sameMethod x.cls owner x.name x.desc).before a0 Z = true) (wd : (Cond.declares ⟨owner, x.name, x.desc⟩).before a0 Z = true) (hy : owner ≠ "java/lang/invoke/MethodHandle" ∧ owner ≠ "java/lang/invoke/VarHandle") (wsel : (Cond.selects C x ⟨owner, x.name, x.desc⟩).before a0 Z = true) (w2 : (Cond.instanceMethod ⟨owner, x.name, x.desc⟩).before a0 Z = true) (wc : (Cond.code ⟨owner, x.name, x.desc⟩ bytes maxL ret).before a0 Z = true) (wz : (Cond.initialized owner).before a0 Z = true)
    {a : Addr} (E : Exa Z h a C) {g : JFrame} (hg : g.method = m) (hsize : g.locals.size = c.maxLocals) {argsL rest : List Value} (K : own_Con l Z ⟨owner, x.name, x.desc⟩ bytes maxL ret rm (.ref a :: argsL).toArray h Q) (eT : T.heap = h) {ps : List FieldType} {r : Option FieldType} (hpd : parseMethodDescriptor x.desc = some ⟨ps, r⟩) (hlen : argsL.length = ps.length) (hstack : g.stack = argsL.reverse ++ .ref a :: rest) (hW : 2 * g.monitorRoom + (rest.map fun v => v.category).sum ≤ W)
    (hdg : decode c.code g.pc = .ok (.invokevirtual index, 3)) (hf : rm.frames + 1 ≤ R.frames) (hl : W + (maxL + 11) + rm.locals ≤ R.locals) (hcc : cells + rm.cells ≤ R.cells) (hss : slots + rm.slots ≤ R.slots) :
    ∃ (T' : State) (L : List Loc) (v : Option Value) (h' : Heap), Stand p l e R s m args below meth c T' (locs ++ L) (cells + rm.cells) (slots + rm.slots) ∧ T'.heap = h' ∧ Q v h' L ∧ ∀ t, Steps p.tables e below (T'.setTop { g with pc := g.pc + 3, stack := v.toList ++ rest }) t → Steps p.tables e below (T.setTop g) t := by
  obtain ⟨cB, kB, q1, q2, q3⟩ := isOf hZ eT E
  obtain ⟨v, _, ⟨T', L', k', n'⟩, -, X', ⟨L, hQ, l1, l2, l3⟩, st⟩ := X.virtualBackUp hx hown (mvT hZ w1) (mvT hZ ws) (mvT hZ wd) hy (mvT hZ wsel) (mvT hZ w2) (backOf (K []) hZ wc wz hf hl) q1 q3 hg hsize (Steps.refl _) (argsL := argsL) (rest := rest) (lenOf hpd hlen) hstack hW hdg (fun _ _ => ⟨rfl, eT, hcc, hss⟩)
  dsimp only [Pt.U, Pt.locs, Pt.cells, Pt.slots] at X' l1 l2 l3 st hQ
  subst l1 l2 l3
  exact ⟨T', L, v, _, X', rfl, hQ, fun t k => st.trans k⟩
/-- an object of just this class, no box of the VM's own -/
def own_Obj (Z : State) (h : Heap) (a : Addr) (C : String) : Prop := Exa Z h a C ∧ ∃ cell : Cell, h[a]? = some cell ∧ cell.vm ≠ .unknown
theorem own_Obj.new {a : Addr} {C : String} (E : Exa Z h a C) (N : ∃ cell : Cell, h[a]? = some cell ∧ cell.vm = .none ∧ cell.monitor = {}) : own_Obj Z h a C := by
  obtain ⟨cell, h1, h2, -⟩ := N
  exact ⟨E, cell, h1, by rw [h2]; simp⟩
theorem own_Obj.lt {a : Addr} {C : String} (F : own_Obj Z h a C) : a < h.size := F.1.lt
theorem own_Obj.ext {a : Addr} {C : String} (F : own_Obj Z h a C) (E : Ext h h') : own_Obj Z h' a C := by
  obtain ⟨F, cell, h1, h2⟩ := F
  exact ⟨F.ext E, cell, E.2 _ _ h1, h2⟩
theorem own_Obj.keep {a : Addr} {C : String} {ws : List Addr} (F : own_Obj Z h a C) (K : Keep h h' ws) : own_Obj Z h' a C := by
  obtain ⟨F, cell, h1, h2⟩ := F
  obtain ⟨c', q1, -, q3, -⟩ := K.2.2 a cell h1
  exact ⟨F.keep K, c', q1, by rw [q3]; exact h2⟩
theorem own_Obj.wr {a b : Addr} {C : String} {sl : Nat} {v : Value} (F : own_Obj Z h a C) (W : Wr h h' b sl v) : own_Obj Z h' a C := F.keep (Keep.of_wr W)
theorem own_Obj.fld {a : Addr} {C O n d : String} {k : Nat} (F : own_Obj Z h a C) (wi : (Cond.instantiable C k).before a0 Z = true) (L : Laid Z a0 C O n d) : ∃ v, Fld Z h a O n d v := fld_laid F.1 F.2 wi L
/-- arraylength, of an array known -/
theorem own_alen (X : Stand p l e R s m args below meth c T locs cells slots) (hx : p.tables.exec = Jvm.exec) (hZ : Z.Warmed39 s.vm) (eT : T.heap = h) {a : Addr} {k : ClassId} {ty : FieldType} {z : Int32} {vs : List Value} {dv : Value} (A : Arv Z h a k ty z vs dv) {g : JFrame} (hg : g.method = m) {rest : List Value} (hs : g.stack = .ref a :: rest) (hd : decode c.code g.pc = .ok (.arraylength, 1)) :
    ∀ t, Steps p.tables e below (T.setTop { g with pc := g.pc + 1, stack := .int z :: rest }) t → Steps p.tables e below (T.setTop g) t := by
  obtain ⟨cl, A, q1, S, q3, H, G⟩ := A
  intro t k
  refine X.arraylength hx (by rw [eT]; exact A.1) (State.isArrayOf_alike hZ.alike A.2.1) hg hs hd _ ?_
  rw [len_of S q3]
  exact k
/-- getfield through an entry that is said resolved -/
theorem own_getR (X : Stand p l e R s m args below meth c T locs cells slots) (hx : p.tables.exec = Jvm.exec) (hZ : Z.Warmed39 s.vm) {own O n d : String} {index : Nat} (hown : s.vm.findClass own = some m.cls) (w : (Cond.fieldRef own index O n d).before a0 Z = true) (eT : T.heap = h) {a : Addr} {v : Value} (F : Fld Z h a O n d v)
    {g : JFrame} (hg : g.method = m) {rest : List Value} (hs : g.stack = .ref a :: rest) (hd : decode c.code g.pc = .ok (.getfield index, 3)) :
    ∀ t, Steps p.tables e below (T.setTop { g with pc := g.pc + 3, stack := v :: rest }) t → Steps p.tables e below (T.setTop g) t := by
  have w1 : (Cond.fieldRef own index O n d).before a0 (Z.setVm s.vm) = true := Cond.fieldRef_warmed39 hZ w
  have w2 : (Cond.fieldRef own index O n d).before a0 ((Z.setVm s.vm).setVm T.vm) = true := Cond.fieldRef_warmed (s := Z.setVm s.vm) X.warmed w1
  have hU : Z.Warmed39 T.vm := wtrans hZ X.warmed
  have hown' : ((Z.setVm s.vm).setVm T.vm).vm.findClass own = some m.cls := by
    show T.vm.findClass own = _
    rw [X.warmed.alike.findClass]; exact hown
  obtain ⟨cf, k, i, f, hf, hr⟩ := Cond.fieldRef_spec hown' w2
  obtain ⟨cell, cf2, k2, i2, f2, h1, h2, h3, h4, -, -, h7⟩ := F
  obtain ⟨k', hi, -⟩ := State.fieldFound?_setVm (s := Z) hU.alike h2
  have hf' : (Z.setVm T.vm).fieldFound? O n d = some (cf, k, i, f) := hf
  rw [hi] at hf'
  cases hf'
  intro t k
  subst hg
  jvm_step X.here [X.here.top, hx, hd, getfield.wp_ready (e := e) (s := T) (f := g) X.here.top hr h3 hs (by rw [eT]; exact h1) h4 h7]
  exact k
end OwnKit
end Jvm.RoadKit
namespace Jvm.RoadKit
open Sem ClassFile Op Lib Jvm.Stand Jvm.Free Jvm.LawKit
section OwnBack
variable {p : Program} {l : Launch} {e : Env} {R : Room} {s : State} {m : MethodId} {args : Array Value} {below : List Frame} {meth : Method} {c : Code} {T : State} {locs : List Loc} {cells slots : Nat} {Z : State} {a0 : Array Value} {h h' : Heap}
/-- a constructor, by who pays it -/
theorem own_bcallC {y : MethodName} {bytes : ByteArray} {maxL nc ns : Nat} {Q : Option Value → Heap → List Loc → Prop} {own : String} {index W : Nat} (X : Stand p l e R s m args below meth c T locs cells slots) (hx : p.tables.exec = Jvm.exec) (hZ : Z.Warmed39 s.vm) (hown : s.vm.findClass own = some m.cls) (hy1 : y.name = "<init>")
    (w1 : (Cond.methodLink own index y).before a0 Z = true) (w2 : (Cond.instanceMethod y).before a0 Z = true) (wc : (Cond.code y bytes maxL none).before a0 Z = true) (hy : y.cls ≠ "java/lang/invoke/MethodHandle" ∧ y.cls ≠ "java/lang/invoke/VarHandle")
    {a : Addr} {g : JFrame} (hg : g.method = m) (hsize : g.locals.size = c.maxLocals) {argsL rest : List Value}
    (K : Back l R p e below s args y 3 W (fun A b => b = (.ref a :: argsL).toArray ∧ A.U.heap = h ∧ A.cells + nc ≤ R.cells ∧ A.slots + ns ≤ R.slots) (fun A _ v B => ∃ L, Q v B.U.heap L ∧ B.locs = A.locs ++ L ∧ B.cells = A.cells + nc ∧ B.slots = A.slots + ns))
    (eT : T.heap = h) {ps : List FieldType} {r : Option FieldType} (hpd : parseMethodDescriptor y.desc = some ⟨ps, r⟩) (hlen : argsL.length = ps.length) (hstack : g.stack = argsL.reverse ++ .ref a :: rest) (hW : 2 * g.monitorRoom + (rest.map fun v => v.category).sum ≤ W)
    (hdg : decode c.code g.pc = .ok (.invokespecial index, 3)) (hcc : cells + nc ≤ R.cells) (hss : slots + ns ≤ R.slots) :
    ∃ (T' : State) (L : List Loc) (v : Option Value) (h' : Heap), Stand p l e R s m args below meth c T' (locs ++ L) (cells + nc) (slots + ns) ∧ T'.heap = h' ∧ Q v h' L ∧ ∀ t, Steps p.tables e below (T'.setTop { g with pc := g.pc + 3, stack := v.toList ++ rest }) t → Steps p.tables e below (T.setTop g) t := by
  obtain ⟨v, _, ⟨T', L', k', n'⟩, -, X', ⟨L, hQ, l1, l2, l3⟩, st⟩ := X.specialBack hx hy1 hown (mvT hZ w1) (mvT hZ w2) (mvT hZ wc) hy K hg hsize (Steps.refl _) (a := a) (argsL := argsL) (rest := rest) (lenOf hpd hlen) hstack hW hdg (fun _ _ => ⟨rfl, eT, hcc, hss⟩)
  dsimp only [Pt.U, Pt.locs, Pt.cells, Pt.slots] at X' l1 l2 l3 st hQ
  subst l1 l2 l3
  exact ⟨T', L, v, _, X', rfl, hQ, fun t k => st.trans k⟩
/-- an instance method that the receiver's class selects, by who pays it -/
theorem own_bcallV {y : MethodName} {C : String} {nc ns : Nat} {Q : Option Value → Heap → List Loc → Prop} {own : String} {index W : Nat} (X : Stand p l e R s m args below meth c T locs cells slots) (hx : p.tables.exec = Jvm.exec) (hZ : Z.Warmed39 s.vm) (hown : s.vm.findClass own = some m.cls)
    (w1 : (Cond.methodLink own index y).before a0 Z = true) (wd : (Cond.declares y).before a0 Z = true) (wsel : (Cond.selects C y y).before a0 Z = true) (w2 : (Cond.instanceMethod y).before a0 Z = true) (hy : y.cls ≠ "java/lang/invoke/MethodHandle" ∧ y.cls ≠ "java/lang/invoke/VarHandle")
    {a : Addr} (E : Exa Z h a C) {g : JFrame} (hg : g.method = m) (hsize : g.locals.size = c.maxLocals) {argsL rest : List Value}
    (K : Back l R p e below s args y 3 W (fun A b => b = (.ref a :: argsL).toArray ∧ A.U.heap = h ∧ A.cells + nc ≤ R.cells ∧ A.slots + ns ≤ R.slots) (fun A _ v B => ∃ L, Q v B.U.heap L ∧ B.locs = A.locs ++ L ∧ B.cells = A.cells + nc ∧ B.slots = A.slots + ns))
    (eT : T.heap = h) {ps : List FieldType} {r : Option FieldType} (hpd : parseMethodDescriptor y.desc = some ⟨ps, r⟩) (hlen : argsL.length = ps.length) (hstack : g.stack = argsL.reverse ++ .ref a :: rest) (hW : 2 * g.monitorRoom + (rest.map fun v => v.category).sum ≤ W)
    (hdg : decode c.code g.pc = .ok (.invokevirtual index, 3)) (hcc : cells + nc ≤ R.cells) (hss : slots + ns ≤ R.slots) :
    ∃ (T' : State) (L : List Loc) (v : Option Value) (h' : Heap), Stand p l e R s m args below meth c T' (locs ++ L) (cells + nc) (slots + ns) ∧ T'.heap = h' ∧ Q v h' L ∧ ∀ t, Steps p.tables e below (T'.setTop { g with pc := g.pc + 3, stack := v.toList ++ rest }) t → Steps p.tables e below (T.setTop g) t := by
  obtain ⟨cB, kB, q1, q2, q3⟩ := isOf hZ eT E
  obtain ⟨v, _, ⟨T', L', k', n'⟩, -, X', ⟨L, hQ, l1, l2, l3⟩, st⟩ := X.virtualBack hx hown (mvT hZ w1) (mvT hZ wd) (notFace_of_selects (args := #[]) (mvT hZ wsel)) (mvT hZ wsel) (mvT hZ w2) hy K q1 q3 hg hsize (Steps.refl _) (argsL := argsL) (rest := rest) (lenOf hpd hlen) hstack hW hdg (fun _ _ => ⟨rfl, eT, hcc, hss⟩)
  dsimp only [Pt.U, Pt.locs, Pt.cells, Pt.slots] at X' l1 l2 l3 st hQ
  subst l1 l2 l3
  exact ⟨T', L, v, _, X', rfl, hQ, fun t k => st.trans k⟩
theorem own_nref {u : Value} {C : String} (r : u.isRef = true) : narrow (.object C) u = u := by cases u <;> simp [Value.isRef] at r <;> rfl
theorem own_fref {u : Value} {C : String} (r : u.isRef = true) : fits (.object C) u = true := by cases u <;> simp [Value.isRef] at r <;> rfl
/-- caload, of an array known -/
theorem own_caload (X : Stand p l e R s m args below meth c T locs cells slots) (hx : p.tables.exec = Jvm.exec) (hZ : Z.Warmed39 s.vm) (eT : T.heap = h) {a : Addr} {k : ClassId} {z j v : Int32} {vs : List Value} {dv : Value} (A : Arv Z h a k .char z vs dv) (hj : ¬ j < 0 ∧ j < z) (hv : vs.getD j.toNatClampNeg dv = .int v) {g : JFrame} (hg : g.method = m) {rest : List Value} (hs : g.stack = .int j :: .ref a :: rest) (hd : decode c.code g.pc = .ok (.caload, 1)) :
    ∀ t, Steps p.tables e below (T.setTop { g with pc := g.pc + 1, stack := .int v :: rest }) t → Steps p.tables e below (T.setTop g) t := by
  obtain ⟨cl, A, q1, S, q3, H, G⟩ := A
  intro t k
  exact X.caload hx (j := j) (v := .int v) (by rw [eT]; exact A.1) (State.isArrayOf_alike hZ.alike A.2.1) A.2.2 (inb_of S hj) (H.at (inb_of S hj) hv) hg hs hd _ k
/-- aaload, of an array known -/
theorem own_aaload (X : Stand p l e R s m args below meth c T locs cells slots) (hx : p.tables.exec = Jvm.exec) (hZ : Z.Warmed39 s.vm) (eT : T.heap = h) {a : Addr} {k : ClassId} {ty : FieldType} {z j : Int32} {v : Value} {vs : List Value} {dv : Value} (A : Arv Z h a k ty z vs dv) (hty : ty.isReference = true) (hj : ¬ j < 0 ∧ j < z) (hv : vs.getD j.toNatClampNeg dv = v) {g : JFrame} (hg : g.method = m) {rest : List Value} (hs : g.stack = .int j :: .ref a :: rest) (hd : decode c.code g.pc = .ok (.aaload, 1)) :
    ∀ t, Steps p.tables e below (T.setTop { g with pc := g.pc + 1, stack := v :: rest }) t → Steps p.tables e below (T.setTop g) t := by
  obtain ⟨cl, A, q1, S, q3, H, G⟩ := A
  intro t k
  exact X.aaload hx (j := j) (v := v) (by rw [eT]; exact A.1) (State.isArrayOf_alike hZ.alike A.2.1) hty A.2.2 (inb_of S hj) (H.at (inb_of S hj) hv) hg hs hd _ k
end OwnBack
end Jvm.RoadKit
namespace Jvm.RoadKit
open Sem ClassFile Op Lib Bundle Jvm.Stand Jvm.Free Jvm.LawKit Jvm.Free.SB Jvm.Free.SBG
section OwnWide
variable {p : Program} {l : Launch} {e : Env} {R : Room} {s : State} {m : MethodId} {args : Array Value} {below : List Frame} {meth : Method} {c : Code} {T : State} {locs : List Loc} {cells slots : Nat} {Z : State} {a0 : Array Value} {h h' : Heap} {vm0 : Vm}
abbrev own_PostW (s : State) (rm : Room) (Q : Option Value → Heap → List Loc → Prop) : Outcome → State → Prop := fun o U' => ∃ v L, o = .returned v ∧ Q v U'.heap L ∧ ReturnedEndW s o U' L rm.cells rm.slots
/-- a body's contract where String constants may be loaded: J is what is known of the tables at its start -/
def own_ConW (l : Launch) (Z : State) (J : Vm → Prop) (y : MethodName) (bytes : ByteArray) (maxL : Nat) (ret : Option FieldType) (rm : Room) (as' : Array Value) (h : Heap) (Q : Option Value → Heap → List Loc → Prop) : Prop :=
  ∀ ws : List Cond, MetFree l y (head1 (Cond.code y bytes maxL ret :: ws) rm) (fun a U => a = as' ∧ Z.Warmed39 U.vm ∧ U.heap = h ∧ J U.vm) (fun _ _ _ _ _ => True) (fun _ U o U' => ∃ v L, o = .returned v ∧ Q v U'.heap L ∧ ReturnedEndW U o U' L rm.cells rm.slots)
theorem own_conW {J : Vm → Prop} {y : MethodName} {bytes : ByteArray} {maxL : Nat} {ret : Option FieldType} {rm : Room} {as' : Array Value} {Q : Option Value → Heap → List Loc → Prop} {ls : Array Slot} (hpl : plainFor y = true) (ef : ∀ m, entryFrame m as' maxL = mkF m 0 ls [])
    (body : ∀ (p : Program) (e : Env) (s : State) (m : MethodId) (below : List Frame) (meth : Method) (c : Code) (s₁ : State), p.tables.exec = Jvm.exec → c.code = bytes → c.maxLocals = maxL → s.vm.findClass y.cls = some m.cls → meth.name = y.name → meth.sig.returnType = ret → meth.locks = false → Z.Warmed39 s.vm →
      Stand p l e rm (s.setVm s.vm) m as' below meth c s₁ [] 0 0 → s₁.heap = h → s.Since s.vm 0 → J s.vm → own_Fin p e below (own_PostW s rm Q) s₁ (mkF m 0 ls [])) : own_ConW l Z J y bytes maxL ret rm as' h Q := by
  intro ws
  refine MetFree.of_bodySF hpl hisR ?_
  intro p e s m args below meth c s₁ Bd hml0 hP hK
  obtain ⟨rfl, hZ, hh, hJ⟩ := hP
  have k := body p e s m below meth c s₁ Bd.exec Bd.bytes hml0 (findClass_of_methodNamed Bd.named) (name_of_methodNamed Bd.named Bd.method).1 Bd.returns Bd.notSynchronized hZ (Stand.of_body Bd) (by rw [← hh, Bd.state]; rfl) ((State.WarmedH.refl s).since 0) hJ
  rw [← ef m] at k
  exact k
/-- a contract that loads no constant is one that may -/
theorem own_Con.wide {y : MethodName} {bytes : ByteArray} {maxL : Nat} {ret : Option FieldType} {rm : Room} {as' : Array Value} {Q : Option Value → Heap → List Loc → Prop} {J : Vm → Prop} (K : own_Con l Z y bytes maxL ret rm as' h Q) : own_ConW l Z J y bytes maxL ret rm as' h Q := fun ws =>
  MetFree.mono (K ws) (fun _ _ q => ⟨q.1, q.2.1, q.2.2.1⟩) (fun _ _ _ _ _ q => q) (fun _ _ _ _ _ ⟨v, L, h1, h2, h3, h4, h5⟩ => ⟨v, L, h1, h2, ReturnedEndW.of_narrow h3 h4 h5⟩)
theorem own_retW {rm : Room} {Q : Option Value → Heap → List Loc → Prop} (X : Stand p l e R (s.setVm vm0) m args below meth c T locs cells slots) {k0 : Nat} (hS : s.Since vm0 k0) (hk : k0 ≤ h.size) (hlk : meth.locks = false) {v : Option Value} (hv : meth.sig.returnType = none → v = none) {g : JFrame}
    (st : ∀ fs, (∀ (f : JFrame) (acts : List Action), f.method = m → f.locked = none → f.entered = [] → (doReturn e (T.setTop f) acts v).1 = T.setFrames fs) → Steps p.tables e below (T.setTop g) (T.setFrames fs))
    (eT : T.heap = h) (hQ : Q v h locs) (hc : cells ≤ rm.cells) (hs : slots ≤ rm.slots) : own_Fin p e below (own_PostW s rm Q) T g := by
  obtain ⟨fs, hr, hrun, hended, q1, q2, q3, q4⟩ := X.leaveW hS (by rw [eT]; exact hk) hv hlk
  refine ⟨_, _, st fs hr, hrun, hended, v, locs, rfl, ?_, q1, q2, q3, q4.mono hc hs⟩
  show Q v T.heap locs
  rw [eT]; exact hQ
theorem own_retVW {rm : Room} {Q : Option Value → Heap → List Loc → Prop} (X : Stand p l e R (s.setVm vm0) m args below meth c T locs cells slots) (hx : p.tables.exec = Jvm.exec) {k0 : Nat} (hS : s.Since vm0 k0) (hk : k0 ≤ h.size) (hlk : meth.locks = false) (hret : meth.sig.returnType = none) {pc : Nat} {Ls : Array Slot} (hd : decode c.code pc = .ok (.return_, 1))
    (eT : T.heap = h) (hQ : Q none h locs) (hc : cells ≤ rm.cells) (hs : slots ≤ rm.slots) : own_Fin p e below (own_PostW s rm Q) T (mkF m pc Ls []) :=
  own_retW X hS hk hlk (fun _ => rfl) (fun fs hr => X.returnOut hx hret hd hr) eT hQ hc hs
theorem own_retNW {rm : Room} {Q : Option Value → Heap → List Loc → Prop} (X : Stand p l e R (s.setVm vm0) m args below meth c T locs cells slots) (hx : p.tables.exec = Jvm.exec) {k0 : Nat} (hS : s.Since vm0 k0) (hk : k0 ≤ h.size) (hlk : meth.locks = false) {t : FieldType} (hret : meth.sig.returnType = some t) (ht : t = .boolean ∨ t = .byte ∨ t = .char ∨ t = .short) {pc : Nat} {Ls : Array Slot} {z : Int32} {rest : List Value} (hd : decode c.code pc = .ok (.ireturn, 1))
    (eT : T.heap = h) (hQ : Q (some (.int (nar t z))) h locs) (hc : cells ≤ rm.cells) (hs : slots ≤ rm.slots) : own_Fin p e below (own_PostW s rm Q) T (mkF m pc Ls (.int z :: rest)) :=
  own_retW X hS hk hlk (fun q => by rw [hret] at q; cases q) (fun fs hr => retN X hx hret ht hd hr) eT hQ hc hs
theorem own_retIW {rm : Room} {Q : Option Value → Heap → List Loc → Prop} (X : Stand p l e R (s.setVm vm0) m args below meth c T locs cells slots) (hx : p.tables.exec = Jvm.exec) {k0 : Nat} (hS : s.Since vm0 k0) (hk : k0 ≤ h.size) (hlk : meth.locks = false) (hret : meth.sig.returnType = some .int) {pc : Nat} {Ls : Array Slot} {z : Int32} {rest : List Value} (hd : decode c.code pc = .ok (.ireturn, 1))
    (eT : T.heap = h) (hQ : Q (some (.int z)) h locs) (hc : cells ≤ rm.cells) (hs : slots ≤ rm.slots) : own_Fin p e below (own_PostW s rm Q) T (mkF m pc Ls (.int z :: rest)) :=
  own_retW X hS hk hlk (fun q => by rw [hret] at q; cases q) (fun fs hr => retOut X hx hret rfl (Or.inl ⟨rfl, Or.inl rfl, z, rfl⟩) hd hr) eT hQ hc hs
theorem own_retAW {rm : Room} {Q : Option Value → Heap → List Loc → Prop} (X : Stand p l e R (s.setVm vm0) m args below meth c T locs cells slots) (hx : p.tables.exec = Jvm.exec) {k0 : Nat} (hS : s.Since vm0 k0) (hk : k0 ≤ h.size) (hlk : meth.locks = false) {t : FieldType} (hret : meth.sig.returnType = some t) {w : Value} (hn : narrow t w = w) (ht : t.isReference = true) (hw : w.isRef = true) {pc : Nat} {Ls : Array Slot} {rest : List Value} (hd : decode c.code pc = .ok (.areturn, 1))
    (eT : T.heap = h) (hQ : Q (some w) h locs) (hc : cells ≤ rm.cells) (hs : slots ≤ rm.slots) : own_Fin p e below (own_PostW s rm Q) T (mkF m pc Ls (w :: rest)) :=
  own_retW X hS hk hlk (fun q => by rw [hret] at q; cases q) (fun fs hr => retOut X hx hret hn (Or.inr (Or.inr (Or.inr (Or.inr ⟨rfl, ht, hw⟩)))) hd hr) eT hQ hc hs
/-- who pays a call of such a callee -/
theorem own_backW {J : Vm → Prop} {y : MethodName} {bytes : ByteArray} {maxL : Nat} {ret : Option FieldType} {rm : Room} {len W : Nat} {as' : Array Value} {Q : Option Value → Heap → List Loc → Prop} (K : own_ConW l Z J y bytes maxL ret rm as' h Q)
    (hZ : Z.Warmed39 s.vm) (wc : (Cond.code y bytes maxL ret).before a0 Z = true) (wz : (Cond.initialized y.cls).before a0 Z = true) (hf : rm.frames + 1 ≤ R.frames) (hl : W + (maxL + 11) + rm.locals ≤ R.locals)
    (hJ : ∀ (m : MethodId) (meth : Method) (c : Code) (A : Pt), Stand p l e R s m args below meth c A.U A.locs A.cells A.slots → J A.U.vm) :
    BackS l R p e below s args y len W (fun A a => a = as' ∧ A.U.heap = h ∧ A.cells + rm.cells ≤ R.cells ∧ A.slots + rm.slots ≤ R.slots)
      (fun A _ v B => ∃ L, Q v B.U.heap L ∧ B.locs = A.locs ++ L ∧ B.cells = A.cells + rm.cells ∧ B.slots = A.slots + rm.slots) :=
  BackS.of_freeW (bytes := bytes) (maxL := maxL) (ret := ret) (E := fun _ _ o t L k n => k = rm.cells ∧ n = rm.slots ∧ ∃ v, o = .returned v ∧ Q v t.heap L) (K []) hf hl
    (fun m meth c A a Y hp => have hU : Z.Warmed39 A.U.vm := wtrans hZ Y.warmed
      ⟨by show (Cond.and _ .tt).before a A.U = true; rw [Cond.before_and, mv hU wc]; rfl, mv hU wc, mv hU wz, hp.2.2.1, hp.2.2.2⟩)
    (fun m meth c A a g mk Y hp => ⟨hp.1, wtrans hZ Y.warmed, hp.2.1, hJ m meth c A Y⟩) (fun _ _ _ _ _ _ _ _ _ => trivial)
    (fun _ _ _ _ ⟨v, L, h1, h2, h3⟩ => ⟨L, _, _, h3, rfl, rfl, v, h1, h2⟩)
    (fun m meth c A a g mk v t L k n Y hp _ _ ⟨e1, e2, v', e3, e4⟩ => by cases e3; subst e1 e2; exact ⟨L, e4, rfl, rfl, rfl⟩)
/-- a constructor that may load constants -/
theorem own_callCW {J : Vm → Prop} {y : MethodName} {bytes : ByteArray} {maxL : Nat} {rm : Room} {Q : Option Value → Heap → List Loc → Prop} {own : String} {index W : Nat} (X : Stand p l e R (s.setVm vm0) m args below meth c T locs cells slots) (hx : p.tables.exec = Jvm.exec) (hZ : Z.Warmed39 vm0) (hown : vm0.findClass own = some m.cls) {k0 : Nat} (hS : s.Since vm0 k0) (hk : k0 ≤ h.size) (hy1 : y.name = "<init>")
    (w1 : (Cond.methodLink own index y).before a0 Z = true) (w2 : (Cond.instanceMethod y).before a0 Z = true) (wc : (Cond.code y bytes maxL none).before a0 Z = true) (wz : (Cond.initialized y.cls).before a0 Z = true) (hy : y.cls ≠ "java/lang/invoke/MethodHandle" ∧ y.cls ≠ "java/lang/invoke/VarHandle")
    {a : Addr} {g : JFrame} (hg : g.method = m) (hsize : g.locals.size = c.maxLocals) {argsL rest : List Value} (K : own_ConW l Z J y bytes maxL none rm (.ref a :: argsL).toArray h Q) (hJ : ∀ (m : MethodId) (meth : Method) (c : Code) (A : Pt), Stand p l e R (s.setVm vm0) m args below meth c A.U A.locs A.cells A.slots → J A.U.vm) (eT : T.heap = h) {ps : List FieldType} {r : Option FieldType} (hpd : parseMethodDescriptor y.desc = some ⟨ps, r⟩) (hlen : argsL.length = ps.length) (hstack : g.stack = argsL.reverse ++ .ref a :: rest) (hW : 2 * g.monitorRoom + (rest.map fun v => v.category).sum ≤ W)
    (hdg : decode c.code g.pc = .ok (.invokespecial index, 3)) (hf : rm.frames + 1 ≤ R.frames) (hl : W + (maxL + 11) + rm.locals ≤ R.locals) (hcc : cells + rm.cells ≤ R.cells) (hss : slots + rm.slots ≤ R.slots) :
    ∃ (T' : State) (L : List Loc) (v : Option Value) (h' : Heap), Stand p l e R (s.setVm T'.vm) m args below meth c T' (locs ++ L) (cells + rm.cells) (slots + rm.slots) ∧ T'.heap = h' ∧ s.Since T'.vm h'.size ∧ Z.Warmed39 T'.vm ∧ T'.vm.findClass own = some m.cls ∧ Q v h' L ∧ ∀ t, Steps p.tables e below (T'.setTop { g with pc := g.pc + 3, stack := v.toList ++ rest }) t → Steps p.tables e below (T.setTop g) t := by
  obtain ⟨v, _, ⟨T', L', k', n'⟩, -, X', S', G', ⟨L, hQ, l1, l2, l3⟩, st⟩ := X.specialBackS hx hy1 hown (mvT (s := s.setVm vm0) hZ w1) (mvT (s := s.setVm vm0) hZ w2) (mvT (s := s.setVm vm0) hZ wc) hy (own_backW (s := s.setVm vm0) K hZ wc wz hf hl hJ) hg hsize (Steps.refl _) (a := a) (argsL := argsL) (rest := rest) (lenOf hpd hlen) hstack hW hdg (fun _ _ => ⟨rfl, eT, hcc, hss⟩)
  dsimp only [Pt.U, Pt.locs, Pt.cells, Pt.slots] at X' l1 l2 l3 st hQ S' G'
  subst l1 l2 l3
  obtain ⟨r1, r2, r3, r4⟩ := rebS hS (by rw [← eT] at hk; exact hk) X' S' G' hZ hown
  exact ⟨T', L, v, _, r1, rfl, r2, r3, r4, hQ, fun t k => st.trans k⟩
/-- a static method that may -/
theorem own_callSW {J : Vm → Prop} {y : MethodName} {bytes : ByteArray} {maxL : Nat} {ret : Option FieldType} {rm : Room} {Q : Option Value → Heap → List Loc → Prop} {own : String} {index W : Nat} (X : Stand p l e R (s.setVm vm0) m args below meth c T locs cells slots) (hx : p.tables.exec = Jvm.exec) (hZ : Z.Warmed39 vm0) (hown : vm0.findClass own = some m.cls) {k0 : Nat} (hS : s.Since vm0 k0) (hk : k0 ≤ h.size)
    (w1 : (Cond.methodLink own index y).before a0 Z = true) (w2 : (Cond.static y).before a0 Z = true) (wc : (Cond.code y bytes maxL ret).before a0 Z = true) (wz : (Cond.initialized y.cls).before a0 Z = true) (hy : y.cls ≠ "java/lang/invoke/MethodHandle" ∧ y.cls ≠ "java/lang/invoke/VarHandle")
    {g : JFrame} (hg : g.method = m) (hsize : g.locals.size = c.maxLocals) {argsL rest : List Value} (K : own_ConW l Z J y bytes maxL ret rm argsL.toArray h Q) (hJ : ∀ (m : MethodId) (meth : Method) (c : Code) (A : Pt), Stand p l e R (s.setVm vm0) m args below meth c A.U A.locs A.cells A.slots → J A.U.vm) (eT : T.heap = h) {ps : List FieldType} {r : Option FieldType} (hpd : parseMethodDescriptor y.desc = some ⟨ps, r⟩) (hlen : argsL.length = ps.length) (hstack : g.stack = argsL.reverse ++ rest) (hW : 2 * g.monitorRoom + (rest.map fun v => v.category).sum ≤ W)
    (hdg : decode c.code g.pc = .ok (.invokestatic index, 3)) (hf : rm.frames + 1 ≤ R.frames) (hl : W + (maxL + 11) + rm.locals ≤ R.locals) (hcc : cells + rm.cells ≤ R.cells) (hss : slots + rm.slots ≤ R.slots) :
    ∃ (T' : State) (L : List Loc) (v : Option Value) (h' : Heap), Stand p l e R (s.setVm T'.vm) m args below meth c T' (locs ++ L) (cells + rm.cells) (slots + rm.slots) ∧ T'.heap = h' ∧ s.Since T'.vm h'.size ∧ Z.Warmed39 T'.vm ∧ T'.vm.findClass own = some m.cls ∧ Q v h' L ∧ ∀ t, Steps p.tables e below (T'.setTop { g with pc := g.pc + 3, stack := v.toList ++ rest }) t → Steps p.tables e below (T.setTop g) t := by
  obtain ⟨v, _, ⟨T', L', k', n'⟩, -, X', S', G', ⟨L, hQ, l1, l2, l3⟩, st⟩ := callSS X hx hown (mvT (s := s.setVm vm0) hZ w1) (mvT (s := s.setVm vm0) hZ w2) (mvT (s := s.setVm vm0) hZ wz) (mvT (s := s.setVm vm0) hZ wc) hy (own_backW (s := s.setVm vm0) K hZ wc wz hf hl hJ) hg hsize (argsL := argsL) (rest := rest) (lenOf hpd hlen) hstack hW hdg (fun _ _ => ⟨rfl, eT, hcc, hss⟩)
  dsimp only [Pt.U, Pt.locs, Pt.cells, Pt.slots] at X' l1 l2 l3 st hQ S' G'
  subst l1 l2 l3
  obtain ⟨r1, r2, r3, r4⟩ := rebS hS (by rw [← eT] at hk; exact hk) X' S' G' hZ hown
  exact ⟨T', L, v, _, r1, rfl, r2, r3, r4, hQ, fun t k => st.trans k⟩
end OwnWide
end Jvm.RoadKit
namespace Jvm.RoadKit
open Sem ClassFile Op Lib Jvm.Stand Jvm.Free Jvm.LawKit
section OwnThree
variable {p : Program} {l : Launch} {e : Env} {R : Room} {s : State} {m : MethodId} {args : Array Value} {below : List Frame} {meth : Method} {c : Code} {T : State} {locs : List Loc} {cells slots : Nat} {Z : State} {a0 : Array Value} {h h' : Heap}
/-- this class is no interface -/
def own_NI (Z : State) (C : String) : Prop := ∃ (c : ClassId) (k : Class), Z.vm.findClass C = some c ∧ Z.vm.classes[c]? = some k ∧ k.isInterface = false
theorem own_NI.sel {C : String} {x y : MethodName} (w : (Cond.selects C x y).before a0 Z = true) : own_NI Z y.cls := by
  obtain ⟨c, r, m, q1, q2, q3, q4, mk, q5, q6⟩ := Cond.selects_spec w
  exact ⟨m.cls, mk, findClass_of_methodNamed q3, q5, q6⟩
theorem own_NI.inst {C : String} {n : Nat} (w : (Cond.instantiable C n).before a0 Z = true) : own_NI Z C := by
  obtain ⟨c, k, q1, q2, q3, q4, -⟩ := Cond.instantiable_spec w
  simp only [Bool.or_eq_false_iff] at q4
  exact ⟨c, k, q1, q2, q4.1⟩
theorem own_same {y : MethodName} (N : own_NI Z y.cls) (w3 : (Cond.instanceMethod y).before a0 Z = true) (hy : y.cls ≠ "java/lang/invoke/MethodHandle" ∧ y.cls ≠ "java/lang/invoke/VarHandle") : (Cond.sameMethod y.cls y.cls y.name y.desc).before a0 Z = true := by
  obtain ⟨mk, methM, hnamed, -, -, -⟩ := Cond.instanceMethod_spec w3
  have hf : Z.methodFound? y.cls y.name y.desc = some mk := State.methodFound?_of_named hnamed hy
  obtain ⟨c, k, q1, q2, q3⟩ := N
  have hn : Z.methodNamed? ⟨y.cls, y.name, y.desc⟩ = some mk := hnamed
  simp only [Cond.before, Cond.holds, Cond.value, q1, hf, hn, q2]
  simp; exact q3
theorem own_selself {y : MethodName} (N : own_NI Z y.cls) (w3 : (Cond.instanceMethod y).before a0 Z = true) (wp : (Cond.privateMethod y).before a0 Z = true) (hy : y.cls ≠ "java/lang/invoke/MethodHandle" ∧ y.cls ≠ "java/lang/invoke/VarHandle") : (Cond.selects y.cls y y).before a0 Z = true := by
  obtain ⟨c, k, q1, q2, q3⟩ := N
  exact selects_self_of_private q1 q2 q3 (Cond.privateMethod_at wp) w3 hy
/-- a private method, by its contract -/
theorem own_callP {y : MethodName} {C : String} {bytes : ByteArray} {maxL : Nat} {ret : Option FieldType} {rm : Room} {Q : Option Value → Heap → List Loc → Prop} {own : String} {index W : Nat} (X : Stand p l e R s m args below meth c T locs cells slots) (hx : p.tables.exec = Jvm.exec) (hZ : Z.Warmed39 s.vm) (hown : s.vm.findClass own = some m.cls)
    (w1 : (Cond.methodLink own index y).before a0 Z = true) (N : own_NI Z y.cls) (wp : (Cond.privateMethod y).before a0 Z = true) (w2 : (Cond.instanceMethod y).before a0 Z = true) (wc : (Cond.code y bytes maxL ret).before a0 Z = true) (wz : (Cond.initialized y.cls).before a0 Z = true) (hy : y.cls ≠ "java/lang/invoke/MethodHandle" ∧ y.cls ≠ "java/lang/invoke/VarHandle")
    {a : Addr} (E : Exa Z h a C) {g : JFrame} (hg : g.method = m) (hsize : g.locals.size = c.maxLocals) {argsL rest : List Value} (K : own_Con l Z y bytes maxL ret rm (.ref a :: argsL).toArray h Q) (eT : T.heap = h) {ps : List FieldType} {r : Option FieldType} (hpd : parseMethodDescriptor y.desc = some ⟨ps, r⟩) (hlen : argsL.length = ps.length) (hstack : g.stack = argsL.reverse ++ .ref a :: rest) (hW : 2 * g.monitorRoom + (rest.map fun v => v.category).sum ≤ W)
    (hdg : decode c.code g.pc = .ok (.invokevirtual index, 3)) (hf : rm.frames + 1 ≤ R.frames) (hl : W + (maxL + 11) + rm.locals ≤ R.locals) (hcc : cells + rm.cells ≤ R.cells) (hss : slots + rm.slots ≤ R.slots) :
    ∃ (T' : State) (L : List Loc) (v : Option Value) (h' : Heap), Stand p l e R s m args below meth c T' (locs ++ L) (cells + rm.cells) (slots + rm.slots) ∧ T'.heap = h' ∧ Q v h' L ∧ ∀ t, Steps p.tables e below (T'.setTop { g with pc := g.pc + 3, stack := v.toList ++ rest }) t → Steps p.tables e below (T.setTop g) t := by
  obtain ⟨cell, hcell, hobj⟩ := (Ins.self E).cell
  obtain ⟨v, _, ⟨T', L', k', n'⟩, -, X', ⟨L, hQ, l1, l2, l3⟩, st⟩ := X.privateBack hx hown (mvT hZ w1) (mvT hZ w2) (mvT hZ (own_selself N w2 wp hy)) (Cond.privateMethod_at (args := args) (mvT hZ wp)) (mvT hZ wc) hy (backOf (K []) hZ wc wz hf hl) hg hsize (Steps.refl _) (a := a) (cell := cell) (by rw [eT]; exact hcell) hobj (argsL := argsL) (rest := rest) (lenOf hpd hlen) hstack hW hdg (fun _ _ => ⟨rfl, eT, hcc, hss⟩)
  dsimp only [Pt.U, Pt.locs, Pt.cells, Pt.slots] at X' l1 l2 l3 st hQ
  subst l1 l2 l3
  exact ⟨T', L, v, _, X', rfl, hQ, fun t k => st.trans k⟩
/-- super.m(..), by its contract -/
theorem own_callSup {y : MethodName} {C : String} {bytes : ByteArray} {maxL : Nat} {ret : Option FieldType} {rm : Room} {Q : Option Value → Heap → List Loc → Prop} {own : String} {index W : Nat} (X : Stand p l e R s m args below meth c T locs cells slots) (hx : p.tables.exec = Jvm.exec) (hZ : Z.Warmed39 s.vm) (hown : s.vm.findClass own = some m.cls)
    (w1 : (Cond.methodLink own index y).before a0 Z = true) (N : own_NI Z y.cls) (ws : (Cond.superclass own y.cls).before a0 Z = true) (w2 : (Cond.instanceMethod y).before a0 Z = true) (wc : (Cond.code y bytes maxL ret).before a0 Z = true) (wz : (Cond.initialized y.cls).before a0 Z = true) (hy : y.cls ≠ "java/lang/invoke/MethodHandle" ∧ y.cls ≠ "java/lang/invoke/VarHandle") (hn : y.name ≠ "<init>")
    {a : Addr} (E : Exa Z h a C) {g : JFrame} (hg : g.method = m) (hsize : g.locals.size = c.maxLocals) {argsL rest : List Value} (K : own_Con l Z y bytes maxL ret rm (.ref a :: argsL).toArray h Q) (eT : T.heap = h) {ps : List FieldType} {r : Option FieldType} (hpd : parseMethodDescriptor y.desc = some ⟨ps, r⟩) (hlen : argsL.length = ps.length) (hstack : g.stack = argsL.reverse ++ .ref a :: rest) (hW : 2 * g.monitorRoom + (rest.map fun v => v.category).sum ≤ W)
    (hdg : decode c.code g.pc = .ok (.invokespecial index, 3)) (hf : rm.frames + 1 ≤ R.frames) (hl : W + (maxL + 11) + rm.locals ≤ R.locals) (hcc : cells + rm.cells ≤ R.cells) (hss : slots + rm.slots ≤ R.slots) :
    ∃ (T' : State) (L : List Loc) (v : Option Value) (h' : Heap), Stand p l e R s m args below meth c T' (locs ++ L) (cells + rm.cells) (slots + rm.slots) ∧ T'.heap = h' ∧ Q v h' L ∧ ∀ t, Steps p.tables e below (T'.setTop { g with pc := g.pc + 3, stack := v.toList ++ rest }) t → Steps p.tables e below (T.setTop g) t := by
  obtain ⟨v, _, ⟨T', L', k', n'⟩, -, X', ⟨L, hQ, l1, l2, l3⟩, st⟩ := superBack X hx hZ hown w1 (own_same N w2 hy) w2 ws hn (backOf (K []) hZ wc wz hf hl) eT (Ins.self E) hg hsize wc (argsL := argsL) (rest := rest) (lenOf hpd hlen) hstack hW hdg (fun _ _ => ⟨rfl, eT, hcc, hss⟩)
  dsimp only [Pt.U, Pt.locs, Pt.cells, Pt.slots] at X' l1 l2 l3 st hQ
  subst l1 l2 l3
  exact ⟨T', L, v, _, X', rfl, hQ, fun t k => st.trans k⟩
/-- an instance method named in a class above, selected in the receiver's -/
theorem own_callVz {y z : MethodName} {C : String} {bytes : ByteArray} {maxL : Nat} {ret : Option FieldType} {rm : Room} {Q : Option Value → Heap → List Loc → Prop} {own : String} {index W : Nat} (X : Stand p l e R s m args below meth c T locs cells slots) (hx : p.tables.exec = Jvm.exec) (hZ : Z.Warmed39 s.vm) (hown : s.vm.findClass own = some m.cls)
    (w1 : (Cond.methodLink own index y).before a0 Z = true) (wd : (Cond.declares y).before a0 Z = true) (N : own_NI Z y.cls) (wsel : (Cond.selects C y z).before a0 Z = true) (w2 : (Cond.instanceMethod z).before a0 Z = true) (wc : (Cond.code z bytes maxL ret).before a0 Z = true) (wz : (Cond.initialized z.cls).before a0 Z = true) (hy : y.cls ≠ "java/lang/invoke/MethodHandle" ∧ y.cls ≠ "java/lang/invoke/VarHandle")
    {a : Addr} (E : Exa Z h a C) {g : JFrame} (hg : g.method = m) (hsize : g.locals.size = c.maxLocals) {argsL rest : List Value} (K : own_Con l Z z bytes maxL ret rm (.ref a :: argsL).toArray h Q) (eT : T.heap = h) {ps : List FieldType} {r : Option FieldType} (hpd : parseMethodDescriptor y.desc = some ⟨ps, r⟩) (hlen : argsL.length = ps.length) (hstack : g.stack = argsL.reverse ++ .ref a :: rest) (hW : 2 * g.monitorRoom + (rest.map fun v => v.category).sum ≤ W)
    (hdg : decode c.code g.pc = .ok (.invokevirtual index, 3)) (hf : rm.frames + 1 ≤ R.frames) (hl : W + (maxL + 11) + rm.locals ≤ R.locals) (hcc : cells + rm.cells ≤ R.cells) (hss : slots + rm.slots ≤ R.slots) :
    ∃ (T' : State) (L : List Loc) (v : Option Value) (h' : Heap), Stand p l e R s m args below meth c T' (locs ++ L) (cells + rm.cells) (slots + rm.slots) ∧ T'.heap = h' ∧ Q v h' L ∧ ∀ t, Steps p.tables e below (T'.setTop { g with pc := g.pc + 3, stack := v.toList ++ rest }) t → Steps p.tables e below (T.setTop g) t := by
  obtain ⟨cB, kB, q1, q2, q3⟩ := isOf hZ eT E
  have nf : NotFace s y := fun r0 hr0 => by
    obtain ⟨cy, ky, u1, u2, u3⟩ := N
    obtain ⟨ky', v1, v2⟩ := hZ.alike.2.2 _ _ u2
    have e1 := findClass_of_methodNamed hr0
    rw [hZ.alike.findClass] at e1
    cases u1.symm.trans e1
    exact ⟨ky', v1, by rw [v2]; exact u3⟩
  obtain ⟨v, _, ⟨T', L', k', n'⟩, -, X', ⟨L, hQ, l1, l2, l3⟩, st⟩ := X.virtualBack hx hown (mvT hZ w1) (mvT hZ wd) nf (mvT hZ wsel) (mvT hZ w2) hy (backOf (K []) hZ wc wz hf hl) q1 q3 hg hsize (Steps.refl _) (argsL := argsL) (rest := rest) (lenOf hpd hlen) hstack hW hdg (fun _ _ => ⟨rfl, eT, hcc, hss⟩)
  dsimp only [Pt.U, Pt.locs, Pt.cells, Pt.slots] at X' l1 l2 l3 st hQ
  subst l1 l2 l3
  exact ⟨T', L, v, _, X', rfl, hQ, fun t k => st.trans k⟩
/-- the first n bytes of an array copied into a new one of that length -/
theorem own_copy {own : String} {index : Nat} (X : Stand p l e R s m args below meth c T locs cells slots) (hx : p.tables.exec = Jvm.exec) (hZ : Z.Warmed39 s.vm) (hown : s.vm.findClass own = some m.cls)
    (w1 : (Cond.methodLink own index acN).before a0 Z = true) (wn : (Cond.native acN).before a0 Z = true) (ws : (Cond.static acN).before a0 Z = true) (wz : (Cond.initialized "java/lang/System").before a0 Z = true) (eT : T.heap = h)
    {src dst : Addr} {k1 k2 : ClassId} {z : Int32} {vs ws' : List Value} {d1 d2 : Value} {n : Nat} (A : Arv Z h src k1 .byte z vs d1) (B : Arv Z h dst k2 .byte (Int32.ofNat n) ws' d2) (hne : dst ≠ src) (hn : n < 2 ^ 31) (hz : n ≤ z.toNatClampNeg) (hv : vs.length = n)
    {g : JFrame} (hg : g.method = m) (hsize : g.locals.size = c.maxLocals) {rest : List Value} (hstack : g.stack = .int (Int32.ofNat n) :: .int 0 :: .ref dst :: .int 0 :: .ref src :: rest) (hdg : decode c.code g.pc = .ok (.invokestatic index, 3)) (hf : 1 ≤ R.frames) (hl : 2 * g.monitorRoom + (rest.map fun v => v.category).sum + (nativeFrameWords "java/lang/System" "arraycopy" 5 + 11) ≤ R.locals) :
    ∃ (T' : State) (L : List Loc) (h' : Heap), Stand p l e R s m args below meth c T' (locs ++ L) cells slots ∧ T'.heap = h' ∧ Keep h h' [dst] ∧ (∀ y ∈ L, y.base = dst) ∧ Arv Z h' dst k2 .byte (Int32.ofNat n) vs d2 ∧ ∀ t, Steps p.tables e below (T'.setTop { g with pc := g.pc + 3, stack := rest }) t → Steps p.tables e below (T.setTop g) t := by
  obtain ⟨ca, Aa, qa, Sa, Na, Ha, Ga⟩ := A
  obtain ⟨cb, Ab, qb, Sb, Nb, Hb, Gb⟩ := B
  have en : (Int32.ofNat n).toInt = n := Int32.toInt_ofNat_of_lt hn
  have ec : (Int32.ofNat n).toNatClampNeg = n := by simp only [Int32.toNatClampNeg, en]; rfl
  have e0 : (0 : Int32).toNatClampNeg = 0 := rfl
  have e0' : (0 : Int32).toInt = 0 := rfl
  obtain ⟨ka, hka, ca', hka'⟩ := (State.isArrayOf_alike hZ.alike Aa.2.1).2
  obtain ⟨kb, hkb, cb', hkb'⟩ := (State.isArrayOf_alike hZ.alike Ab.2.1).2
  rw [ec] at Sb
  have hget : ∀ i, i < n → ca.slots.getD (0 + i) .null = vs.getD i d1 := fun i hi => by
    have := Ha i (by omega)
    rw [Nat.zero_add, Array.getD_eq_getD_getElem?, this]; rfl
  obtain ⟨vm₁, hW, X', st⟩ := X.arraycopyK hx hown (mvT hZ w1) (mvT hZ wn) (mvT hZ ws) (mvT hZ wz) (src := src) (dst := dst) (srcPos := 0) (destPos := 0) (n := Int32.ofNat n) (by rw [eT]; exact Aa.1) (by rw [eT]; exact Ab.1) Aa.2.1.1 Ab.2.1.1 Aa.2.2 Ab.2.2 hka hkb hka' hkb' rfl (by decide) (by decide) (fun q => by have := Int32.lt_iff_toInt_lt.mp q; rw [en, e0'] at this; omega) (by rw [en, e0', Sa]; omega) (by rw [en, e0', Sb]; omega)
    (fun vm _ i hi => by
      rw [ec] at hi
      rw [e0, hget i hi]
      have hf := Ga i (by omega)
      refine ⟨hf, ?_⟩
      revert hf
      cases vs.getD i d1 <;> simp [fits, State.takes]) hg hsize hstack hdg hf hl
  rw [ec, e0] at X'
  have hfa := Cell.storeRun_facts cb 0 (ca.stretch 0 n)
  have hlen := Cell.stretch_length ca 0 n
  refine ⟨_, _, _, X', rfl, ?_, fun y hy => copyLocs_base hy, ?_, st⟩
  · have hdlt := Ab.lt
    have hh : ((T.setVm vm₁).setCell dst (copied ca cb 0 0 (Int32.ofNat n))).heap = h.setIfInBounds dst (copied ca cb 0 0 (Int32.ofNat n)) := by rw [← eT]; rfl
    rw [hh]
    refine ⟨by simp, fun x cx hc hx => ?_, fun x cx hc => ?_⟩
    · have : dst ≠ x := fun q => hx (by simp [q])
      simp [Array.getElem?_setIfInBounds, this, hc]
    · by_cases q : dst = x
      · subst q
        cases Ab.1.symm.trans hc
        refine ⟨copied ca cb 0 0 (Int32.ofNat n), by simp [hdlt], ?_⟩
        unfold copied; rw [ec, e0]
        exact ⟨hfa.1, hfa.2.1, hfa.2.2.1⟩
      · exact ⟨cx, by simp [Array.getElem?_setIfInBounds, q, hc], rfl, rfl, rfl⟩
  · refine ⟨copied ca cb 0 0 (Int32.ofNat n), ⟨State.heap_setCell_self (s := T.setVm vm₁) (c := cb) (by show T.heap[dst]? = _; rw [eT]; exact Ab.1), ?_, ?_⟩, ?_, ?_, Nb, ?_, ?_⟩
    all_goals (try unfold copied); (try rw [ec, e0])
    · unfold State.isArrayOf; rw [hfa.1, hfa.2.1]; exact Ab.2.1
    · rw [hfa.2.1]; exact Ab.2.2
    · rw [hfa.1]; exact qb
    · rw [hfa.2.2.1]; exact Sb
    · intro i hi
      rw [hfa.2.2.1, Sb] at hi
      rw [Cell.storeRun_get cb 0 _ i (by rw [hlen]; omega), if_pos ⟨Nat.zero_le _, by rw [hlen]; omega⟩]
      have : vs.getD i d1 = vs.getD i d2 := by simp [List.getD_eq_getElem?_getD, List.getElem?_eq_getElem (show i < vs.length by omega)]
      rw [← this, ← hget i hi]
      simp [Cell.stretch, hi]
    · intro i hi
      rw [hfa.2.2.1, Sb] at hi
      have : vs.getD i d1 = vs.getD i d2 := by simp [List.getD_eq_getElem?_getD, List.getElem?_eq_getElem (show i < vs.length by omega)]
      rw [← this]
      exact Ga i (by omega)
/-- a byte laid behind the known ones -/
theorem own_push {a : Addr} {k : ClassId} {z j : Int32} {vs : List Value} {v dv : Value} {cl : Cell} (A : Arr Z h a cl .byte) (q1 : cl.cls = k) (S : cl.slots.size = z.toNatClampNeg) (q3 : ¬ z < 0) (H : Has cl vs dv) (G : ∀ i, i < cl.slots.size → fits .byte (vs.getD i dv) = true) (hv : fits .byte v = true) (W : Wr h h' a j.toNatClampNeg v) (hj : j.toNatClampNeg = vs.length) : Arv Z h' a k .byte z (vs ++ [v]) dv := by
  have F : Arv Z h a k .byte z (vs ++ List.replicate 1 dv) dv := Arv.pad ⟨cl, A, q1, S, q3, H, G⟩ (pad_rep vs dv 1)
  obtain ⟨c', A', r1, r2, r3, r4, r5⟩ := F
  have e := Arv.set A' r1 r2 r3 r4 r5 hv W vs.length hj (by simp)
  have : (vs ++ List.replicate 1 dv).set vs.length v = vs ++ [v] := by simp [List.set_append]
  rw [this] at e; exact e
/-- baload, of an array of bytes known -/
theorem own_baload (X : Stand p l e R s m args below meth c T locs cells slots) (hx : p.tables.exec = Jvm.exec) (hZ : Z.Warmed39 s.vm) (eT : T.heap = h) {a : Addr} {k : ClassId} {z j v : Int32} {vs : List Value} {dv : Value} (A : Arv Z h a k .byte z vs dv) (hj : ¬ j < 0 ∧ j < z) (hv : vs.getD j.toNatClampNeg dv = .int v) {g : JFrame} (hg : g.method = m) {rest : List Value} (hs : g.stack = .int j :: .ref a :: rest) (hd : decode c.code g.pc = .ok (.baload, 1)) :
    ∀ t, Steps p.tables e below (T.setTop { g with pc := g.pc + 1, stack := .int v :: rest }) t → Steps p.tables e below (T.setTop g) t := by
  obtain ⟨cl, A, q1, S, q3, H, G⟩ := A
  intro t k
  exact X.baloadBytes hx (j := j) (v := .int v) (by rw [eT]; exact A.1) (State.isArrayOf_alike hZ.alike A.2.1) A.2.2 (inb_of S hj) (H.at (inb_of S hj) hv) hg hs hd _ k
end OwnThree
end Jvm.RoadKit
namespace Jvm.Pilot.@@N@@
open Jvm Jvm.ClassFile Sem Op Lib Jvm.Free Jvm.Stand Jvm.LawKit Jvm.RoadKit Bundle Jvm.Pilot.@@N@@.Jvm.D
theorem w0 {a0 : Array Value} {Z : State} (hw : ∀ d ∈ tables_1, d.before a0 Z = true) : (Jvm.Cond.arrayClass Jvm.ClassFile.FieldType.char).before a0 Z = true := hw _ (List.mem_of_getElem? (i := 0) rfl)
theorem w1 {a0 : Array Value} {Z : State} (hw : ∀ d ∈ tables_1, d.before a0 Z = true) : (Jvm.Cond.methodLink "com/example/hradcany/hradcany/authzen/AnswerTextWrite122PinLaw" (7 : Nat) ({ cls := "com/example/hradcany/hradcany/authzen/AnswerTextWrite122PinLaw", name := "draw", desc := "(II)C" } : Jvm.MethodName)).before a0 Z = true := hw _ (List.mem_of_getElem? (i := 1) rfl)
theorem w2 {a0 : Array Value} {Z : State} (hw : ∀ d ∈ tables_1, d.before a0 Z = true) : (Jvm.Cond.static ({ cls := "com/example/hradcany/hradcany/authzen/AnswerTextWrite122PinLaw", name := "draw", desc := "(II)C" } : Jvm.MethodName)).before a0 Z = true := hw _ (List.mem_of_getElem? (i := 2) rfl)
theorem w3 {a0 : Array Value} {Z : State} (hw : ∀ d ∈ tables_1, d.before a0 Z = true) : (Jvm.Cond.initialized "com/example/hradcany/hradcany/authzen/AnswerTextWrite122PinLaw").before a0 Z = true := hw _ (List.mem_of_getElem? (i := 3) rfl)
theorem w4 {a0 : Array Value} {Z : State} (hw : ∀ d ∈ tables_1, d.before a0 Z = true) : (Jvm.Cond.code ({ cls := "com/example/hradcany/hradcany/authzen/AnswerTextWrite122PinLaw", name := "draw", desc := "(II)C" } : Jvm.MethodName) method_3_code (2 : Nat) (Option.some Jvm.ClassFile.FieldType.char)).before a0 Z = true := hw _ (List.mem_of_getElem? (i := 4) rfl)
theorem w5 {a0 : Array Value} {Z : State} (hw : ∀ d ∈ tables_1, d.before a0 Z = true) : (Jvm.Cond.constant "com/example/hradcany/hradcany/authzen/AnswerTextWrite122PinLaw" (13 : Nat) (2147483647 : Int32)).before a0 Z = true := hw _ (List.mem_of_getElem? (i := 5) rfl)
theorem w6 {a0 : Array Value} {Z : State} (hw : ∀ d ∈ tables_1, d.before a0 Z = true) : (Jvm.Cond.classLink "com/example/hradcany/hradcany/authzen/AnswerTextWrite122PinLaw" (14 : Nat) "com/example/hradcany/hradcany/authzen/AnswerText").before a0 Z = true := hw _ (List.mem_of_getElem? (i := 6) rfl)
theorem w7 {a0 : Array Value} {Z : State} (hw : ∀ d ∈ tables_1, d.before a0 Z = true) : (Jvm.Cond.instantiable "com/example/hradcany/hradcany/authzen/AnswerText" (4 : Nat)).before a0 Z = true := hw _ (List.mem_of_getElem? (i := 7) rfl)
theorem w8 {a0 : Array Value} {Z : State} (hw : ∀ d ∈ tables_1, d.before a0 Z = true) : (Jvm.Cond.initialized "com/example/hradcany/hradcany/authzen/AnswerText").before a0 Z = true := hw _ (List.mem_of_getElem? (i := 8) rfl)
theorem w9 {a0 : Array Value} {Z : State} (hw : ∀ d ∈ tables_1, d.before a0 Z = true) : (Jvm.Cond.methodLink "com/example/hradcany/hradcany/authzen/AnswerTextWrite122PinLaw" (16 : Nat) ({ cls := "com/example/hradcany/hradcany/authzen/AnswerText", name := "<init>", desc := "(I)V" } : Jvm.MethodName)).before a0 Z = true := hw _ (List.mem_of_getElem? (i := 9) rfl)
theorem w10 {a0 : Array Value} {Z : State} (hw : ∀ d ∈ tables_1, d.before a0 Z = true) : (Jvm.Cond.instanceMethod ({ cls := "com/example/hradcany/hradcany/authzen/AnswerText", name := "<init>", desc := "(I)V" } : Jvm.MethodName)).before a0 Z = true := hw _ (List.mem_of_getElem? (i := 10) rfl)
theorem w11 {a0 : Array Value} {Z : State} (hw : ∀ d ∈ tables_1, d.before a0 Z = true) : (Jvm.Cond.code ({ cls := "com/example/hradcany/hradcany/authzen/AnswerText", name := "<init>", desc := "(I)V" } : Jvm.MethodName) prog_1_method_1_code (2 : Nat) (Option.none : Option Jvm.ClassFile.FieldType)).before a0 Z = true := hw _ (List.mem_of_getElem? (i := 11) rfl)
theorem w12 {a0 : Array Value} {Z : State} (hw : ∀ d ∈ tables_1, d.before a0 Z = true) : (Jvm.Cond.methodLink "com/example/hradcany/hradcany/authzen/AnswerText" (1 : Nat) ({ cls := "java/io/Writer", name := "<init>", desc := "()V" } : Jvm.MethodName)).before a0 Z = true := hw _ (List.mem_of_getElem? (i := 12) rfl)
theorem w13 {a0 : Array Value} {Z : State} (hw : ∀ d ∈ tables_1, d.before a0 Z = true) : (Jvm.Cond.instanceMethod ({ cls := "java/io/Writer", name := "<init>", desc := "()V" } : Jvm.MethodName)).before a0 Z = true := hw _ (List.mem_of_getElem? (i := 13) rfl)
theorem w15 {a0 : Array Value} {Z : State} (hw : ∀ d ∈ tables_1, d.before a0 Z = true) : (Jvm.Cond.initialized "java/io/Writer").before a0 Z = true := hw _ (List.mem_of_getElem? (i := 15) rfl)
theorem w16 {a0 : Array Value} {Z : State} (hw : ∀ d ∈ tables_1, d.before a0 Z = true) : (Jvm.Cond.code ({ cls := "java/io/Writer", name := "<init>", desc := "()V" } : Jvm.MethodName) jdk_2052_method_2_code (1 : Nat) (Option.none : Option Jvm.ClassFile.FieldType)).before a0 Z = true := hw _ (List.mem_of_getElem? (i := 16) rfl)
theorem w17 {a0 : Array Value} {Z : State} (hw : ∀ d ∈ tables_1, d.before a0 Z = true) : (Jvm.Cond.methodLink "java/io/Writer" (7 : Nat) ({ cls := "java/lang/Object", name := "<init>", desc := "()V" } : Jvm.MethodName)).before a0 Z = true := hw _ (List.mem_of_getElem? (i := 17) rfl)
theorem w18 {a0 : Array Value} {Z : State} (hw : ∀ d ∈ tables_1, d.before a0 Z = true) : (Jvm.Cond.instanceMethod ({ cls := "java/lang/Object", name := "<init>", desc := "()V" } : Jvm.MethodName)).before a0 Z = true := hw _ (List.mem_of_getElem? (i := 18) rfl)
theorem w19 {a0 : Array Value} {Z : State} (hw : ∀ d ∈ tables_1, d.before a0 Z = true) : (Jvm.Cond.code ({ cls := "java/lang/Object", name := "<init>", desc := "()V" } : Jvm.MethodName) object_method_1_code (1 : Nat) (Option.none : Option Jvm.ClassFile.FieldType)).before a0 Z = true := hw _ (List.mem_of_getElem? (i := 19) rfl)
theorem w20 {a0 : Array Value} {Z : State} (hw : ∀ d ∈ tables_1, d.before a0 Z = true) : (Jvm.Cond.fieldLink "java/io/Writer" (10 : Nat) "java/io/Writer" "lock" "Ljava/lang/Object;").before a0 Z = true := hw _ (List.mem_of_getElem? (i := 20) rfl)
theorem w21 {a0 : Array Value} {Z : State} (hw : ∀ d ∈ tables_1, d.before a0 Z = true) : (Jvm.Cond.lays "com/example/hradcany/hradcany/authzen/AnswerText" "java/io/Writer" "lock" "Ljava/lang/Object;").before a0 Z = true := hw _ (List.mem_of_getElem? (i := 21) rfl)
theorem w22 {a0 : Array Value} {Z : State} (hw : ∀ d ∈ tables_1, d.before a0 Z = true) : (Jvm.Cond.classLink "com/example/hradcany/hradcany/authzen/AnswerText" (7 : Nat) "java/lang/StringBuilder").before a0 Z = true := hw _ (List.mem_of_getElem? (i := 22) rfl)
theorem w23 {a0 : Array Value} {Z : State} (hw : ∀ d ∈ tables_1, d.before a0 Z = true) : (Jvm.Cond.instantiable "java/lang/StringBuilder" (4 : Nat)).before a0 Z = true := hw _ (List.mem_of_getElem? (i := 23) rfl)
theorem w24 {a0 : Array Value} {Z : State} (hw : ∀ d ∈ tables_1, d.before a0 Z = true) : (Jvm.Cond.initialized "java/lang/StringBuilder").before a0 Z = true := hw _ (List.mem_of_getElem? (i := 24) rfl)
theorem w25 {a0 : Array Value} {Z : State} (hw : ∀ d ∈ tables_1, d.before a0 Z = true) : (Jvm.Cond.methodLink "com/example/hradcany/hradcany/authzen/AnswerText" (9 : Nat) ({ cls := "java/lang/StringBuilder", name := "<init>", desc := "()V" } : Jvm.MethodName)).before a0 Z = true := hw _ (List.mem_of_getElem? (i := 25) rfl)
theorem w26 {a0 : Array Value} {Z : State} (hw : ∀ d ∈ tables_1, d.before a0 Z = true) : (Jvm.Cond.instanceMethod ({ cls := "java/lang/StringBuilder", name := "<init>", desc := "()V" } : Jvm.MethodName)).before a0 Z = true := hw _ (List.mem_of_getElem? (i := 26) rfl)
theorem w27 {a0 : Array Value} {Z : State} (hw : ∀ d ∈ tables_1, d.before a0 Z = true) : (Jvm.Cond.code ({ cls := "java/lang/StringBuilder", name := "<init>", desc := "()V" } : Jvm.MethodName) jdk_67_method_1_code (1 : Nat) (Option.none : Option Jvm.ClassFile.FieldType)).before a0 Z = true := hw _ (List.mem_of_getElem? (i := 27) rfl)
theorem w28 {a0 : Array Value} {Z : State} (hw : ∀ d ∈ tables_1, d.before a0 Z = true) : (Jvm.Cond.methodLink "java/lang/StringBuilder" (1 : Nat) ({ cls := "java/lang/AbstractStringBuilder", name := "<init>", desc := "(I)V" } : Jvm.MethodName)).before a0 Z = true := hw _ (List.mem_of_getElem? (i := 28) rfl)
theorem w29 {a0 : Array Value} {Z : State} (hw : ∀ d ∈ tables_1, d.before a0 Z = true) : (Jvm.Cond.instanceMethod ({ cls := "java/lang/AbstractStringBuilder", name := "<init>", desc := "(I)V" } : Jvm.MethodName)).before a0 Z = true := hw _ (List.mem_of_getElem? (i := 29) rfl)
theorem w32 {a0 : Array Value} {Z : State} (hw : ∀ d ∈ tables_1, d.before a0 Z = true) : (Jvm.Cond.initialized "java/lang/AbstractStringBuilder").before a0 Z = true := hw _ (List.mem_of_getElem? (i := 32) rfl)
theorem w33 {a0 : Array Value} {Z : State} (hw : ∀ d ∈ tables_1, d.before a0 Z = true) : (Jvm.Cond.code ({ cls := "java/lang/AbstractStringBuilder", name := "<init>", desc := "(I)V" } : Jvm.MethodName) jdk_68_method_2_code (2 : Nat) (Option.none : Option Jvm.ClassFile.FieldType)).before a0 Z = true := hw _ (List.mem_of_getElem? (i := 33) rfl)
theorem w34 {a0 : Array Value} {Z : State} (hw : ∀ d ∈ tables_1, d.before a0 Z = true) : (Jvm.Cond.methodLink "java/lang/AbstractStringBuilder" (3 : Nat) ({ cls := "java/lang/Object", name := "<init>", desc := "()V" } : Jvm.MethodName)).before a0 Z = true := hw _ (List.mem_of_getElem? (i := 34) rfl)
theorem w35 {a0 : Array Value} {Z : State} (hw : ∀ d ∈ tables_1, d.before a0 Z = true) : (Jvm.Cond.fieldLink "java/lang/AbstractStringBuilder" (18 : Nat) "java/lang/String" "COMPACT_STRINGS" "Z").before a0 Z = true := hw _ (List.mem_of_getElem? (i := 35) rfl)
theorem w36 {a0 : Array Value} {Z : State} (hw : ∀ d ∈ tables_1, d.before a0 Z = true) : (Jvm.Cond.initialized "java/lang/String").before a0 Z = true := hw _ (List.mem_of_getElem? (i := 36) rfl)
theorem w37 {a0 : Array Value} {Z : State} (hw : ∀ d ∈ tables_1, d.before a0 Z = true) : (Jvm.Cond.arrayClass Jvm.ClassFile.FieldType.byte).before a0 Z = true := hw _ (List.mem_of_getElem? (i := 37) rfl)
theorem w38 {a0 : Array Value} {Z : State} (hw : ∀ d ∈ tables_1, d.before a0 Z = true) : (Jvm.Cond.fieldLink "java/lang/AbstractStringBuilder" (15 : Nat) "java/lang/AbstractStringBuilder" "value" "[B").before a0 Z = true := hw _ (List.mem_of_getElem? (i := 38) rfl)
theorem w39 {a0 : Array Value} {Z : State} (hw : ∀ d ∈ tables_1, d.before a0 Z = true) : (Jvm.Cond.lays "java/lang/StringBuilder" "java/lang/AbstractStringBuilder" "value" "[B").before a0 Z = true := hw _ (List.mem_of_getElem? (i := 39) rfl)
theorem w40 {a0 : Array Value} {Z : State} (hw : ∀ d ∈ tables_1, d.before a0 Z = true) : (Jvm.Cond.fieldLink "java/lang/AbstractStringBuilder" (22 : Nat) "java/lang/AbstractStringBuilder" "coder" "B").before a0 Z = true := hw _ (List.mem_of_getElem? (i := 40) rfl)
theorem w41 {a0 : Array Value} {Z : State} (hw : ∀ d ∈ tables_1, d.before a0 Z = true) : (Jvm.Cond.lays "java/lang/StringBuilder" "java/lang/AbstractStringBuilder" "coder" "B").before a0 Z = true := hw _ (List.mem_of_getElem? (i := 41) rfl)
theorem w42 {a0 : Array Value} {Z : State} (hw : ∀ d ∈ tables_1, d.before a0 Z = true) : (Jvm.Cond.fieldLink "com/example/hradcany/hradcany/authzen/AnswerText" (10 : Nat) "com/example/hradcany/hradcany/authzen/AnswerText" "text" "Ljava/lang/StringBuilder;").before a0 Z = true := hw _ (List.mem_of_getElem? (i := 42) rfl)
theorem w43 {a0 : Array Value} {Z : State} (hw : ∀ d ∈ tables_1, d.before a0 Z = true) : (Jvm.Cond.laysFinal "com/example/hradcany/hradcany/authzen/AnswerText" "com/example/hradcany/hradcany/authzen/AnswerText" "text" "Ljava/lang/StringBuilder;").before a0 Z = true := hw _ (List.mem_of_getElem? (i := 43) rfl)
theorem w44 {a0 : Array Value} {Z : State} (hw : ∀ d ∈ tables_1, d.before a0 Z = true) : (Jvm.Cond.fieldLink "com/example/hradcany/hradcany/authzen/AnswerText" (16 : Nat) "com/example/hradcany/hradcany/authzen/AnswerText" "mostBytes" "I").before a0 Z = true := hw _ (List.mem_of_getElem? (i := 44) rfl)
theorem w45 {a0 : Array Value} {Z : State} (hw : ∀ d ∈ tables_1, d.before a0 Z = true) : (Jvm.Cond.laysFinal "com/example/hradcany/hradcany/authzen/AnswerText" "com/example/hradcany/hradcany/authzen/AnswerText" "mostBytes" "I").before a0 Z = true := hw _ (List.mem_of_getElem? (i := 45) rfl)
theorem w46 {a0 : Array Value} {Z : State} (hw : ∀ d ∈ tables_1, d.before a0 Z = true) : (Jvm.Cond.methodLink "com/example/hradcany/hradcany/authzen/AnswerTextWrite122PinLaw" (19 : Nat) ({ cls := "com/example/hradcany/hradcany/authzen/AnswerText", name := "write", desc := "([CII)V" } : Jvm.MethodName)).before a0 Z = true := hw _ (List.mem_of_getElem? (i := 46) rfl)
theorem w47 {a0 : Array Value} {Z : State} (hw : ∀ d ∈ tables_1, d.before a0 Z = true) : (Jvm.Cond.declares ({ cls := "com/example/hradcany/hradcany/authzen/AnswerText", name := "write", desc := "([CII)V" } : Jvm.MethodName)).before a0 Z = true := hw _ (List.mem_of_getElem? (i := 47) rfl)
theorem w48 {a0 : Array Value} {Z : State} (hw : ∀ d ∈ tables_1, d.before a0 Z = true) : (Jvm.Cond.instanceMethod ({ cls := "com/example/hradcany/hradcany/authzen/AnswerText", name := "write", desc := "([CII)V" } : Jvm.MethodName)).before a0 Z = true := hw _ (List.mem_of_getElem? (i := 48) rfl)
theorem w49 {a0 : Array Value} {Z : State} (hw : ∀ d ∈ tables_1, d.before a0 Z = true) : (Jvm.Cond.selects "com/example/hradcany/hradcany/authzen/AnswerText" ({ cls := "com/example/hradcany/hradcany/authzen/AnswerText", name := "write", desc := "([CII)V" } : Jvm.MethodName) ({ cls := "com/example/hradcany/hradcany/authzen/AnswerText", name := "write", desc := "([CII)V" } : Jvm.MethodName)).before a0 Z = true := hw _ (List.mem_of_getElem? (i := 49) rfl)
theorem w50 {a0 : Array Value} {Z : State} (hw : ∀ d ∈ tables_1, d.before a0 Z = true) : (Jvm.Cond.code ({ cls := "com/example/hradcany/hradcany/authzen/AnswerText", name := "write", desc := "([CII)V" } : Jvm.MethodName) prog_1_method_2_code (4 : Nat) (Option.none : Option Jvm.ClassFile.FieldType)).before a0 Z = true := hw _ (List.mem_of_getElem? (i := 50) rfl)
theorem w51 {a0 : Array Value} {Z : State} (hw : ∀ d ∈ tables_1, d.before a0 Z = true) : (Jvm.Cond.methodLink "com/example/hradcany/hradcany/authzen/AnswerText" (20 : Nat) ({ cls := "com/example/hradcany/hradcany/authzen/AnswerText", name := "take", desc := "(I)V" } : Jvm.MethodName)).before a0 Z = true := hw _ (List.mem_of_getElem? (i := 51) rfl)
theorem w52 {a0 : Array Value} {Z : State} (hw : ∀ d ∈ tables_1, d.before a0 Z = true) : (Jvm.Cond.instanceMethod ({ cls := "com/example/hradcany/hradcany/authzen/AnswerText", name := "take", desc := "(I)V" } : Jvm.MethodName)).before a0 Z = true := hw _ (List.mem_of_getElem? (i := 52) rfl)
theorem w53 {a0 : Array Value} {Z : State} (hw : ∀ d ∈ tables_1, d.before a0 Z = true) : (Jvm.Cond.privateMethod ({ cls := "com/example/hradcany/hradcany/authzen/AnswerText", name := "take", desc := "(I)V" } : Jvm.MethodName)).before a0 Z = true := hw _ (List.mem_of_getElem? (i := 53) rfl)
theorem w54 {a0 : Array Value} {Z : State} (hw : ∀ d ∈ tables_1, d.before a0 Z = true) : (Jvm.Cond.code ({ cls := "com/example/hradcany/hradcany/authzen/AnswerText", name := "take", desc := "(I)V" } : Jvm.MethodName) prog_1_method_7_code (2 : Nat) (Option.none : Option Jvm.ClassFile.FieldType)).before a0 Z = true := hw _ (List.mem_of_getElem? (i := 54) rfl)
theorem w55 {a0 : Array Value} {Z : State} (hw : ∀ d ∈ tables_1, d.before a0 Z = true) : (Jvm.Cond.methodLink "com/example/hradcany/hradcany/authzen/AnswerText" (54 : Nat) ({ cls := "java/lang/StringBuilder", name := "length", desc := "()I" } : Jvm.MethodName)).before a0 Z = true := hw _ (List.mem_of_getElem? (i := 55) rfl)
theorem w56 {a0 : Array Value} {Z : State} (hw : ∀ d ∈ tables_1, d.before a0 Z = true) : (Jvm.Cond.declares ({ cls := "java/lang/StringBuilder", name := "length", desc := "()I" } : Jvm.MethodName)).before a0 Z = true := hw _ (List.mem_of_getElem? (i := 56) rfl)
theorem w57 {a0 : Array Value} {Z : State} (hw : ∀ d ∈ tables_1, d.before a0 Z = true) : (Jvm.Cond.instanceMethod ({ cls := "java/lang/StringBuilder", name := "length", desc := "()I" } : Jvm.MethodName)).before a0 Z = true := hw _ (List.mem_of_getElem? (i := 57) rfl)
theorem w58 {a0 : Array Value} {Z : State} (hw : ∀ d ∈ tables_1, d.before a0 Z = true) : (Jvm.Cond.selects "java/lang/StringBuilder" ({ cls := "java/lang/StringBuilder", name := "length", desc := "()I" } : Jvm.MethodName) ({ cls := "java/lang/StringBuilder", name := "length", desc := "()I" } : Jvm.MethodName)).before a0 Z = true := hw _ (List.mem_of_getElem? (i := 58) rfl)
theorem w59 {a0 : Array Value} {Z : State} (hw : ∀ d ∈ tables_1, d.before a0 Z = true) : (Jvm.Cond.code ({ cls := "java/lang/StringBuilder", name := "length", desc := "()I" } : Jvm.MethodName) jdk_67_method_93_code (1 : Nat) (Option.some Jvm.ClassFile.FieldType.int)).before a0 Z = true := hw _ (List.mem_of_getElem? (i := 59) rfl)
theorem w60 {a0 : Array Value} {Z : State} (hw : ∀ d ∈ tables_1, d.before a0 Z = true) : (Jvm.Cond.methodLink "java/lang/StringBuilder" (343 : Nat) ({ cls := "java/lang/AbstractStringBuilder", name := "length", desc := "()I" } : Jvm.MethodName)).before a0 Z = true := hw _ (List.mem_of_getElem? (i := 60) rfl)
theorem w61 {a0 : Array Value} {Z : State} (hw : ∀ d ∈ tables_1, d.before a0 Z = true) : (Jvm.Cond.instanceMethod ({ cls := "java/lang/AbstractStringBuilder", name := "length", desc := "()I" } : Jvm.MethodName)).before a0 Z = true := hw _ (List.mem_of_getElem? (i := 61) rfl)
theorem w62 {a0 : Array Value} {Z : State} (hw : ∀ d ∈ tables_1, d.before a0 Z = true) : (Jvm.Cond.superclass "java/lang/StringBuilder" "java/lang/AbstractStringBuilder").before a0 Z = true := hw _ (List.mem_of_getElem? (i := 62) rfl)
theorem w63 {a0 : Array Value} {Z : State} (hw : ∀ d ∈ tables_1, d.before a0 Z = true) : (Jvm.Cond.declares ({ cls := "java/lang/AbstractStringBuilder", name := "length", desc := "()I" } : Jvm.MethodName)).before a0 Z = true := hw _ (List.mem_of_getElem? (i := 63) rfl)
theorem w64 {a0 : Array Value} {Z : State} (hw : ∀ d ∈ tables_1, d.before a0 Z = true) : (Jvm.Cond.code ({ cls := "java/lang/AbstractStringBuilder", name := "length", desc := "()I" } : Jvm.MethodName) jdk_68_method_6_code (1 : Nat) (Option.some Jvm.ClassFile.FieldType.int)).before a0 Z = true := hw _ (List.mem_of_getElem? (i := 64) rfl)
theorem w65 {a0 : Array Value} {Z : State} (hw : ∀ d ∈ tables_1, d.before a0 Z = true) : (Jvm.Cond.fieldLink "java/lang/AbstractStringBuilder" (79 : Nat) "java/lang/AbstractStringBuilder" "count" "I").before a0 Z = true := hw _ (List.mem_of_getElem? (i := 65) rfl)
theorem w66 {a0 : Array Value} {Z : State} (hw : ∀ d ∈ tables_1, d.before a0 Z = true) : (Jvm.Cond.lays "java/lang/StringBuilder" "java/lang/AbstractStringBuilder" "count" "I").before a0 Z = true := hw _ (List.mem_of_getElem? (i := 66) rfl)
theorem w67 {a0 : Array Value} {Z : State} (hw : ∀ d ∈ tables_1, d.before a0 Z = true) : (Jvm.Cond.methodLink "com/example/hradcany/hradcany/authzen/AnswerText" (24 : Nat) ({ cls := "java/lang/StringBuilder", name := "append", desc := "([CII)Ljava/lang/StringBuilder;" } : Jvm.MethodName)).before a0 Z = true := hw _ (List.mem_of_getElem? (i := 67) rfl)
theorem w68 {a0 : Array Value} {Z : State} (hw : ∀ d ∈ tables_1, d.before a0 Z = true) : (Jvm.Cond.declares ({ cls := "java/lang/StringBuilder", name := "append", desc := "([CII)Ljava/lang/StringBuilder;" } : Jvm.MethodName)).before a0 Z = true := hw _ (List.mem_of_getElem? (i := 68) rfl)
theorem w69 {a0 : Array Value} {Z : State} (hw : ∀ d ∈ tables_1, d.before a0 Z = true) : (Jvm.Cond.instanceMethod ({ cls := "java/lang/StringBuilder", name := "append", desc := "([CII)Ljava/lang/StringBuilder;" } : Jvm.MethodName)).before a0 Z = true := hw _ (List.mem_of_getElem? (i := 69) rfl)
theorem w70 {a0 : Array Value} {Z : State} (hw : ∀ d ∈ tables_1, d.before a0 Z = true) : (Jvm.Cond.selects "java/lang/StringBuilder" ({ cls := "java/lang/StringBuilder", name := "append", desc := "([CII)Ljava/lang/StringBuilder;" } : Jvm.MethodName) ({ cls := "java/lang/StringBuilder", name := "append", desc := "([CII)Ljava/lang/StringBuilder;" } : Jvm.MethodName)).before a0 Z = true := hw _ (List.mem_of_getElem? (i := 70) rfl)
theorem w71 {a0 : Array Value} {Z : State} (hw : ∀ d ∈ tables_1, d.before a0 Z = true) : (Jvm.Cond.code ({ cls := "java/lang/StringBuilder", name := "append", desc := "([CII)Ljava/lang/StringBuilder;" } : Jvm.MethodName) jdk_67_method_12_code (4 : Nat) (Option.some (Jvm.ClassFile.FieldType.object "java/lang/StringBuilder"))).before a0 Z = true := hw _ (List.mem_of_getElem? (i := 71) rfl)
theorem w72 {a0 : Array Value} {Z : State} (hw : ∀ d ∈ tables_1, d.before a0 Z = true) : (Jvm.Cond.methodLink "java/lang/StringBuilder" (44 : Nat) ({ cls := "java/lang/AbstractStringBuilder", name := "append", desc := "([CII)Ljava/lang/AbstractStringBuilder;" } : Jvm.MethodName)).before a0 Z = true := hw _ (List.mem_of_getElem? (i := 72) rfl)
theorem w73 {a0 : Array Value} {Z : State} (hw : ∀ d ∈ tables_1, d.before a0 Z = true) : (Jvm.Cond.instanceMethod ({ cls := "java/lang/AbstractStringBuilder", name := "append", desc := "([CII)Ljava/lang/AbstractStringBuilder;" } : Jvm.MethodName)).before a0 Z = true := hw _ (List.mem_of_getElem? (i := 73) rfl)
theorem w75 {a0 : Array Value} {Z : State} (hw : ∀ d ∈ tables_1, d.before a0 Z = true) : (Jvm.Cond.code ({ cls := "java/lang/AbstractStringBuilder", name := "append", desc := "([CII)Ljava/lang/AbstractStringBuilder;" } : Jvm.MethodName) jdk_68_method_29_code (5 : Nat) (Option.some (Jvm.ClassFile.FieldType.object "java/lang/AbstractStringBuilder"))).before a0 Z = true := hw _ (List.mem_of_getElem? (i := 75) rfl)
theorem w76 {a0 : Array Value} {Z : State} (hw : ∀ d ∈ tables_1, d.before a0 Z = true) : (Jvm.Cond.fieldLink "java/lang/AbstractStringBuilder" (183 : Nat) "jdk/internal/util/Preconditions" "IOOBE_FORMATTER" "Ljava/util/function/BiFunction;").before a0 Z = true := hw _ (List.mem_of_getElem? (i := 76) rfl)
theorem w77 {a0 : Array Value} {Z : State} (hw : ∀ d ∈ tables_1, d.before a0 Z = true) : (Jvm.Cond.initialized "jdk/internal/util/Preconditions").before a0 Z = true := hw _ (List.mem_of_getElem? (i := 77) rfl)
theorem w78 {a0 : Array Value} {Z : State} (hw : ∀ d ∈ tables_1, d.before a0 Z = true) : (Jvm.Cond.laysStatic "jdk/internal/util/Preconditions" "IOOBE_FORMATTER" "Ljava/util/function/BiFunction;").before a0 Z = true := hw _ (List.mem_of_getElem? (i := 78) rfl)
theorem w79 {a0 : Array Value} {Z : State} (hw : ∀ d ∈ tables_1, d.before a0 Z = true) : (Jvm.Cond.methodLink "java/lang/AbstractStringBuilder" (161 : Nat) ({ cls := "jdk/internal/util/Preconditions", name := "checkFromToIndex", desc := "(IIILjava/util/function/BiFunction;)I" } : Jvm.MethodName)).before a0 Z = true := hw _ (List.mem_of_getElem? (i := 79) rfl)
theorem w80 {a0 : Array Value} {Z : State} (hw : ∀ d ∈ tables_1, d.before a0 Z = true) : (Jvm.Cond.static ({ cls := "jdk/internal/util/Preconditions", name := "checkFromToIndex", desc := "(IIILjava/util/function/BiFunction;)I" } : Jvm.MethodName)).before a0 Z = true := hw _ (List.mem_of_getElem? (i := 80) rfl)
theorem w81 {a0 : Array Value} {Z : State} (hw : ∀ d ∈ tables_1, d.before a0 Z = true) : (Jvm.Cond.code ({ cls := "jdk/internal/util/Preconditions", name := "checkFromToIndex", desc := "(IIILjava/util/function/BiFunction;)I" } : Jvm.MethodName) jdk_41_method_12_code (4 : Nat) (Option.some Jvm.ClassFile.FieldType.int)).before a0 Z = true := hw _ (List.mem_of_getElem? (i := 81) rfl)
theorem w82 {a0 : Array Value} {Z : State} (hw : ∀ d ∈ tables_1, d.before a0 Z = true) : (Jvm.Cond.methodLink "java/lang/AbstractStringBuilder" (100 : Nat) ({ cls := "java/lang/AbstractStringBuilder", name := "ensureCapacityInternal", desc := "(I)V" } : Jvm.MethodName)).before a0 Z = true := hw _ (List.mem_of_getElem? (i := 82) rfl)
theorem w83 {a0 : Array Value} {Z : State} (hw : ∀ d ∈ tables_1, d.before a0 Z = true) : (Jvm.Cond.instanceMethod ({ cls := "java/lang/AbstractStringBuilder", name := "ensureCapacityInternal", desc := "(I)V" } : Jvm.MethodName)).before a0 Z = true := hw _ (List.mem_of_getElem? (i := 83) rfl)
theorem w84 {a0 : Array Value} {Z : State} (hw : ∀ d ∈ tables_1, d.before a0 Z = true) : (Jvm.Cond.privateMethod ({ cls := "java/lang/AbstractStringBuilder", name := "ensureCapacityInternal", desc := "(I)V" } : Jvm.MethodName)).before a0 Z = true := hw _ (List.mem_of_getElem? (i := 84) rfl)
theorem w85 {a0 : Array Value} {Z : State} (hw : ∀ d ∈ tables_1, d.before a0 Z = true) : (Jvm.Cond.selects "java/lang/StringBuilder" ({ cls := "java/lang/AbstractStringBuilder", name := "ensureCapacityInternal", desc := "(I)V" } : Jvm.MethodName) ({ cls := "java/lang/AbstractStringBuilder", name := "ensureCapacityInternal", desc := "(I)V" } : Jvm.MethodName)).before a0 Z = true := hw _ (List.mem_of_getElem? (i := 85) rfl)
theorem w86 {a0 : Array Value} {Z : State} (hw : ∀ d ∈ tables_1, d.before a0 Z = true) : (Jvm.Cond.code ({ cls := "java/lang/AbstractStringBuilder", name := "ensureCapacityInternal", desc := "(I)V" } : Jvm.MethodName) jdk_68_method_9_code (3 : Nat) (Option.none : Option Jvm.ClassFile.FieldType)).before a0 Z = true := hw _ (List.mem_of_getElem? (i := 86) rfl)
theorem w87 {a0 : Array Value} {Z : State} (hw : ∀ d ∈ tables_1, d.before a0 Z = true) : (Jvm.Cond.methodLink "java/lang/AbstractStringBuilder" (239 : Nat) ({ cls := "java/lang/AbstractStringBuilder", name := "appendChars", desc := "([CII)V" } : Jvm.MethodName)).before a0 Z = true := hw _ (List.mem_of_getElem? (i := 87) rfl)
theorem w88 {a0 : Array Value} {Z : State} (hw : ∀ d ∈ tables_1, d.before a0 Z = true) : (Jvm.Cond.instanceMethod ({ cls := "java/lang/AbstractStringBuilder", name := "appendChars", desc := "([CII)V" } : Jvm.MethodName)).before a0 Z = true := hw _ (List.mem_of_getElem? (i := 88) rfl)
theorem w89 {a0 : Array Value} {Z : State} (hw : ∀ d ∈ tables_1, d.before a0 Z = true) : (Jvm.Cond.privateMethod ({ cls := "java/lang/AbstractStringBuilder", name := "appendChars", desc := "([CII)V" } : Jvm.MethodName)).before a0 Z = true := hw _ (List.mem_of_getElem? (i := 89) rfl)
theorem w91 {a0 : Array Value} {Z : State} (hw : ∀ d ∈ tables_1, d.before a0 Z = true) : (Jvm.Cond.code ({ cls := "java/lang/AbstractStringBuilder", name := "appendChars", desc := "([CII)V" } : Jvm.MethodName) jdk_68_method_74_code (9 : Nat) (Option.none : Option Jvm.ClassFile.FieldType)).before a0 Z = true := hw _ (List.mem_of_getElem? (i := 91) rfl)
theorem w92 {a0 : Array Value} {Z : State} (hw : ∀ d ∈ tables_1, d.before a0 Z = true) : (Jvm.Cond.methodLink "java/lang/AbstractStringBuilder" (83 : Nat) ({ cls := "java/lang/AbstractStringBuilder", name := "isLatin1", desc := "()Z" } : Jvm.MethodName)).before a0 Z = true := hw _ (List.mem_of_getElem? (i := 92) rfl)
theorem w93 {a0 : Array Value} {Z : State} (hw : ∀ d ∈ tables_1, d.before a0 Z = true) : (Jvm.Cond.declares ({ cls := "java/lang/AbstractStringBuilder", name := "isLatin1", desc := "()Z" } : Jvm.MethodName)).before a0 Z = true := hw _ (List.mem_of_getElem? (i := 93) rfl)
theorem w94 {a0 : Array Value} {Z : State} (hw : ∀ d ∈ tables_1, d.before a0 Z = true) : (Jvm.Cond.instanceMethod ({ cls := "java/lang/AbstractStringBuilder", name := "isLatin1", desc := "()Z" } : Jvm.MethodName)).before a0 Z = true := hw _ (List.mem_of_getElem? (i := 94) rfl)
theorem w95 {a0 : Array Value} {Z : State} (hw : ∀ d ∈ tables_1, d.before a0 Z = true) : (Jvm.Cond.selects "java/lang/StringBuilder" ({ cls := "java/lang/AbstractStringBuilder", name := "isLatin1", desc := "()Z" } : Jvm.MethodName) ({ cls := "java/lang/AbstractStringBuilder", name := "isLatin1", desc := "()Z" } : Jvm.MethodName)).before a0 Z = true := hw _ (List.mem_of_getElem? (i := 95) rfl)
theorem w96 {a0 : Array Value} {Z : State} (hw : ∀ d ∈ tables_1, d.before a0 Z = true) : (Jvm.Cond.code ({ cls := "java/lang/AbstractStringBuilder", name := "isLatin1", desc := "()Z" } : Jvm.MethodName) jdk_68_method_68_code (1 : Nat) (Option.some Jvm.ClassFile.FieldType.boolean)).before a0 Z = true := hw _ (List.mem_of_getElem? (i := 96) rfl)
theorem w97 {a0 : Array Value} {Z : State} (hw : ∀ d ∈ tables_1, d.before a0 Z = true) : (Jvm.Cond.methodLink "com/example/hradcany/hradcany/authzen/AnswerTextWrite122PinLaw" (23 : Nat) ({ cls := "com/example/hradcany/hradcany/authzen/AnswerText", name := "sent", desc := "()Ljava/util/Optional;" } : Jvm.MethodName)).before a0 Z = true := hw _ (List.mem_of_getElem? (i := 97) rfl)
theorem w98 {a0 : Array Value} {Z : State} (hw : ∀ d ∈ tables_1, d.before a0 Z = true) : (Jvm.Cond.declares ({ cls := "com/example/hradcany/hradcany/authzen/AnswerText", name := "sent", desc := "()Ljava/util/Optional;" } : Jvm.MethodName)).before a0 Z = true := hw _ (List.mem_of_getElem? (i := 98) rfl)
theorem w99 {a0 : Array Value} {Z : State} (hw : ∀ d ∈ tables_1, d.before a0 Z = true) : (Jvm.Cond.instanceMethod ({ cls := "com/example/hradcany/hradcany/authzen/AnswerText", name := "sent", desc := "()Ljava/util/Optional;" } : Jvm.MethodName)).before a0 Z = true := hw _ (List.mem_of_getElem? (i := 99) rfl)
theorem w100 {a0 : Array Value} {Z : State} (hw : ∀ d ∈ tables_1, d.before a0 Z = true) : (Jvm.Cond.selects "com/example/hradcany/hradcany/authzen/AnswerText" ({ cls := "com/example/hradcany/hradcany/authzen/AnswerText", name := "sent", desc := "()Ljava/util/Optional;" } : Jvm.MethodName) ({ cls := "com/example/hradcany/hradcany/authzen/AnswerText", name := "sent", desc := "()Ljava/util/Optional;" } : Jvm.MethodName)).before a0 Z = true := hw _ (List.mem_of_getElem? (i := 100) rfl)
theorem w101 {a0 : Array Value} {Z : State} (hw : ∀ d ∈ tables_1, d.before a0 Z = true) : (Jvm.Cond.code ({ cls := "com/example/hradcany/hradcany/authzen/AnswerText", name := "sent", desc := "()Ljava/util/Optional;" } : Jvm.MethodName) prog_1_method_6_code (3 : Nat) (Option.some (Jvm.ClassFile.FieldType.object "java/util/Optional"))).before a0 Z = true := hw _ (List.mem_of_getElem? (i := 101) rfl)
theorem w102 {a0 : Array Value} {Z : State} (hw : ∀ d ∈ tables_1, d.before a0 Z = true) : (Jvm.Cond.methodLink "com/example/hradcany/hradcany/authzen/AnswerText" (31 : Nat) ({ cls := "java/lang/StringBuilder", name := "toString", desc := "()Ljava/lang/String;" } : Jvm.MethodName)).before a0 Z = true := hw _ (List.mem_of_getElem? (i := 102) rfl)
theorem w103 {a0 : Array Value} {Z : State} (hw : ∀ d ∈ tables_1, d.before a0 Z = true) : (Jvm.Cond.declares ({ cls := "java/lang/StringBuilder", name := "toString", desc := "()Ljava/lang/String;" } : Jvm.MethodName)).before a0 Z = true := hw _ (List.mem_of_getElem? (i := 103) rfl)
theorem w104 {a0 : Array Value} {Z : State} (hw : ∀ d ∈ tables_1, d.before a0 Z = true) : (Jvm.Cond.instanceMethod ({ cls := "java/lang/StringBuilder", name := "toString", desc := "()Ljava/lang/String;" } : Jvm.MethodName)).before a0 Z = true := hw _ (List.mem_of_getElem? (i := 104) rfl)
theorem w105 {a0 : Array Value} {Z : State} (hw : ∀ d ∈ tables_1, d.before a0 Z = true) : (Jvm.Cond.selects "java/lang/StringBuilder" ({ cls := "java/lang/StringBuilder", name := "toString", desc := "()Ljava/lang/String;" } : Jvm.MethodName) ({ cls := "java/lang/StringBuilder", name := "toString", desc := "()Ljava/lang/String;" } : Jvm.MethodName)).before a0 Z = true := hw _ (List.mem_of_getElem? (i := 105) rfl)
theorem w106 {a0 : Array Value} {Z : State} (hw : ∀ d ∈ tables_1, d.before a0 Z = true) : (Jvm.Cond.code ({ cls := "java/lang/StringBuilder", name := "toString", desc := "()Ljava/lang/String;" } : Jvm.MethodName) jdk_67_method_42_code (1 : Nat) (Option.some (Jvm.ClassFile.FieldType.object "java/lang/String"))).before a0 Z = true := hw _ (List.mem_of_getElem? (i := 106) rfl)
theorem w107 {a0 : Array Value} {Z : State} (hw : ∀ d ∈ tables_1, d.before a0 Z = true) : (Jvm.Cond.classLink "java/lang/StringBuilder" (18 : Nat) "java/lang/String").before a0 Z = true := hw _ (List.mem_of_getElem? (i := 107) rfl)
theorem w108 {a0 : Array Value} {Z : State} (hw : ∀ d ∈ tables_1, d.before a0 Z = true) : (Jvm.Cond.instantiable "java/lang/String" (4 : Nat)).before a0 Z = true := hw _ (List.mem_of_getElem? (i := 108) rfl)
theorem w109 {a0 : Array Value} {Z : State} (hw : ∀ d ∈ tables_1, d.before a0 Z = true) : (Jvm.Cond.methodLink "java/lang/StringBuilder" (137 : Nat) ({ cls := "java/lang/String", name := "<init>", desc := "(Ljava/lang/StringBuilder;)V" } : Jvm.MethodName)).before a0 Z = true := hw _ (List.mem_of_getElem? (i := 109) rfl)
theorem w110 {a0 : Array Value} {Z : State} (hw : ∀ d ∈ tables_1, d.before a0 Z = true) : (Jvm.Cond.instanceMethod ({ cls := "java/lang/String", name := "<init>", desc := "(Ljava/lang/StringBuilder;)V" } : Jvm.MethodName)).before a0 Z = true := hw _ (List.mem_of_getElem? (i := 110) rfl)
theorem w112 {a0 : Array Value} {Z : State} (hw : ∀ d ∈ tables_1, d.before a0 Z = true) : (Jvm.Cond.code ({ cls := "java/lang/String", name := "<init>", desc := "(Ljava/lang/StringBuilder;)V" } : Jvm.MethodName) jdk_42_method_53_code (2 : Nat) (Option.none : Option Jvm.ClassFile.FieldType)).before a0 Z = true := hw _ (List.mem_of_getElem? (i := 112) rfl)
theorem w113 {a0 : Array Value} {Z : State} (hw : ∀ d ∈ tables_1, d.before a0 Z = true) : (Jvm.Cond.methodLink "java/lang/String" (489 : Nat) ({ cls := "java/lang/String", name := "<init>", desc := "(Ljava/lang/AbstractStringBuilder;Ljava/lang/Void;)V" } : Jvm.MethodName)).before a0 Z = true := hw _ (List.mem_of_getElem? (i := 113) rfl)
theorem w114 {a0 : Array Value} {Z : State} (hw : ∀ d ∈ tables_1, d.before a0 Z = true) : (Jvm.Cond.instanceMethod ({ cls := "java/lang/String", name := "<init>", desc := "(Ljava/lang/AbstractStringBuilder;Ljava/lang/Void;)V" } : Jvm.MethodName)).before a0 Z = true := hw _ (List.mem_of_getElem? (i := 114) rfl)
theorem w115 {a0 : Array Value} {Z : State} (hw : ∀ d ∈ tables_1, d.before a0 Z = true) : (Jvm.Cond.code ({ cls := "java/lang/String", name := "<init>", desc := "(Ljava/lang/AbstractStringBuilder;Ljava/lang/Void;)V" } : Jvm.MethodName) jdk_42_method_150_code (5 : Nat) (Option.none : Option Jvm.ClassFile.FieldType)).before a0 Z = true := hw _ (List.mem_of_getElem? (i := 115) rfl)
theorem w116 {a0 : Array Value} {Z : State} (hw : ∀ d ∈ tables_1, d.before a0 Z = true) : (Jvm.Cond.methodLink "java/lang/String" (1 : Nat) ({ cls := "java/lang/Object", name := "<init>", desc := "()V" } : Jvm.MethodName)).before a0 Z = true := hw _ (List.mem_of_getElem? (i := 116) rfl)
theorem w117 {a0 : Array Value} {Z : State} (hw : ∀ d ∈ tables_1, d.before a0 Z = true) : (Jvm.Cond.methodLink "java/lang/String" (552 : Nat) ({ cls := "java/lang/AbstractStringBuilder", name := "getValue", desc := "()[B" } : Jvm.MethodName)).before a0 Z = true := hw _ (List.mem_of_getElem? (i := 117) rfl)
theorem w118 {a0 : Array Value} {Z : State} (hw : ∀ d ∈ tables_1, d.before a0 Z = true) : (Jvm.Cond.declares ({ cls := "java/lang/AbstractStringBuilder", name := "getValue", desc := "()[B" } : Jvm.MethodName)).before a0 Z = true := hw _ (List.mem_of_getElem? (i := 118) rfl)
theorem w119 {a0 : Array Value} {Z : State} (hw : ∀ d ∈ tables_1, d.before a0 Z = true) : (Jvm.Cond.instanceMethod ({ cls := "java/lang/AbstractStringBuilder", name := "getValue", desc := "()[B" } : Jvm.MethodName)).before a0 Z = true := hw _ (List.mem_of_getElem? (i := 119) rfl)
theorem w120 {a0 : Array Value} {Z : State} (hw : ∀ d ∈ tables_1, d.before a0 Z = true) : (Jvm.Cond.selects "java/lang/StringBuilder" ({ cls := "java/lang/AbstractStringBuilder", name := "getValue", desc := "()[B" } : Jvm.MethodName) ({ cls := "java/lang/AbstractStringBuilder", name := "getValue", desc := "()[B" } : Jvm.MethodName)).before a0 Z = true := hw _ (List.mem_of_getElem? (i := 120) rfl)
theorem w121 {a0 : Array Value} {Z : State} (hw : ∀ d ∈ tables_1, d.before a0 Z = true) : (Jvm.Cond.code ({ cls := "java/lang/AbstractStringBuilder", name := "getValue", desc := "()[B" } : Jvm.MethodName) jdk_68_method_64_code (1 : Nat) (Option.some (Jvm.ClassFile.FieldType.array Jvm.ClassFile.FieldType.byte))).before a0 Z = true := hw _ (List.mem_of_getElem? (i := 121) rfl)
theorem w122 {a0 : Array Value} {Z : State} (hw : ∀ d ∈ tables_1, d.before a0 Z = true) : (Jvm.Cond.methodLink "java/lang/String" (549 : Nat) ({ cls := "java/lang/AbstractStringBuilder", name := "length", desc := "()I" } : Jvm.MethodName)).before a0 Z = true := hw _ (List.mem_of_getElem? (i := 122) rfl)
theorem w123 {a0 : Array Value} {Z : State} (hw : ∀ d ∈ tables_1, d.before a0 Z = true) : (Jvm.Cond.selects "java/lang/StringBuilder" ({ cls := "java/lang/AbstractStringBuilder", name := "length", desc := "()I" } : Jvm.MethodName) ({ cls := "java/lang/StringBuilder", name := "length", desc := "()I" } : Jvm.MethodName)).before a0 Z = true := hw _ (List.mem_of_getElem? (i := 123) rfl)
theorem w124 {a0 : Array Value} {Z : State} (hw : ∀ d ∈ tables_1, d.before a0 Z = true) : (Jvm.Cond.methodLink "java/lang/String" (1047 : Nat) ({ cls := "java/lang/AbstractStringBuilder", name := "isLatin1", desc := "()Z" } : Jvm.MethodName)).before a0 Z = true := hw _ (List.mem_of_getElem? (i := 124) rfl)
theorem w125 {a0 : Array Value} {Z : State} (hw : ∀ d ∈ tables_1, d.before a0 Z = true) : (Jvm.Cond.fieldLink "java/lang/String" (15 : Nat) "java/lang/String" "coder" "B").before a0 Z = true := hw _ (List.mem_of_getElem? (i := 125) rfl)
theorem w126 {a0 : Array Value} {Z : State} (hw : ∀ d ∈ tables_1, d.before a0 Z = true) : (Jvm.Cond.laysFinal "java/lang/String" "java/lang/String" "coder" "B").before a0 Z = true := hw _ (List.mem_of_getElem? (i := 126) rfl)
theorem w127 {a0 : Array Value} {Z : State} (hw : ∀ d ∈ tables_1, d.before a0 Z = true) : (Jvm.Cond.methodLink "java/lang/String" (54 : Nat) ({ cls := "java/util/Arrays", name := "copyOfRange", desc := "([BII)[B" } : Jvm.MethodName)).before a0 Z = true := hw _ (List.mem_of_getElem? (i := 127) rfl)
theorem w128 {a0 : Array Value} {Z : State} (hw : ∀ d ∈ tables_1, d.before a0 Z = true) : (Jvm.Cond.static ({ cls := "java/util/Arrays", name := "copyOfRange", desc := "([BII)[B" } : Jvm.MethodName)).before a0 Z = true := hw _ (List.mem_of_getElem? (i := 128) rfl)
theorem w129 {a0 : Array Value} {Z : State} (hw : ∀ d ∈ tables_1, d.before a0 Z = true) : (Jvm.Cond.initialized "java/util/Arrays").before a0 Z = true := hw _ (List.mem_of_getElem? (i := 129) rfl)
theorem w130 {a0 : Array Value} {Z : State} (hw : ∀ d ∈ tables_1, d.before a0 Z = true) : (Jvm.Cond.code ({ cls := "java/util/Arrays", name := "copyOfRange", desc := "([BII)[B" } : Jvm.MethodName) jdk_65_method_132_code (3 : Nat) (Option.some (Jvm.ClassFile.FieldType.array Jvm.ClassFile.FieldType.byte))).before a0 Z = true := hw _ (List.mem_of_getElem? (i := 130) rfl)
theorem w131 {a0 : Array Value} {Z : State} (hw : ∀ d ∈ tables_1, d.before a0 Z = true) : (Jvm.Cond.methodLink "java/util/Arrays" (339 : Nat) ({ cls := "java/util/Arrays", name := "copyOfRangeByte", desc := "([BII)[B" } : Jvm.MethodName)).before a0 Z = true := hw _ (List.mem_of_getElem? (i := 131) rfl)
theorem w132 {a0 : Array Value} {Z : State} (hw : ∀ d ∈ tables_1, d.before a0 Z = true) : (Jvm.Cond.static ({ cls := "java/util/Arrays", name := "copyOfRangeByte", desc := "([BII)[B" } : Jvm.MethodName)).before a0 Z = true := hw _ (List.mem_of_getElem? (i := 132) rfl)
theorem w133 {a0 : Array Value} {Z : State} (hw : ∀ d ∈ tables_1, d.before a0 Z = true) : (Jvm.Cond.code ({ cls := "java/util/Arrays", name := "copyOfRangeByte", desc := "([BII)[B" } : Jvm.MethodName) jdk_65_method_133_code (5 : Nat) (Option.some (Jvm.ClassFile.FieldType.array Jvm.ClassFile.FieldType.byte))).before a0 Z = true := hw _ (List.mem_of_getElem? (i := 133) rfl)
theorem w134 {a0 : Array Value} {Z : State} (hw : ∀ d ∈ tables_1, d.before a0 Z = true) : (Jvm.Cond.methodLink "java/util/Arrays" (343 : Nat) ({ cls := "java/util/Arrays", name := "checkLength", desc := "(II)V" } : Jvm.MethodName)).before a0 Z = true := hw _ (List.mem_of_getElem? (i := 134) rfl)
theorem w135 {a0 : Array Value} {Z : State} (hw : ∀ d ∈ tables_1, d.before a0 Z = true) : (Jvm.Cond.static ({ cls := "java/util/Arrays", name := "checkLength", desc := "(II)V" } : Jvm.MethodName)).before a0 Z = true := hw _ (List.mem_of_getElem? (i := 135) rfl)
theorem w136 {a0 : Array Value} {Z : State} (hw : ∀ d ∈ tables_1, d.before a0 Z = true) : (Jvm.Cond.code ({ cls := "java/util/Arrays", name := "checkLength", desc := "(II)V" } : Jvm.MethodName) jdk_65_method_131_code (2 : Nat) (Option.none : Option Jvm.ClassFile.FieldType)).before a0 Z = true := hw _ (List.mem_of_getElem? (i := 136) rfl)
theorem w137 {a0 : Array Value} {Z : State} (hw : ∀ d ∈ tables_1, d.before a0 Z = true) : (Jvm.Cond.methodLink "java/util/Arrays" (304 : Nat) ({ cls := "java/lang/Math", name := "min", desc := "(II)I" } : Jvm.MethodName)).before a0 Z = true := hw _ (List.mem_of_getElem? (i := 137) rfl)
theorem w138 {a0 : Array Value} {Z : State} (hw : ∀ d ∈ tables_1, d.before a0 Z = true) : (Jvm.Cond.static ({ cls := "java/lang/Math", name := "min", desc := "(II)I" } : Jvm.MethodName)).before a0 Z = true := hw _ (List.mem_of_getElem? (i := 138) rfl)
theorem w139 {a0 : Array Value} {Z : State} (hw : ∀ d ∈ tables_1, d.before a0 Z = true) : (Jvm.Cond.initialized "java/lang/Math").before a0 Z = true := hw _ (List.mem_of_getElem? (i := 139) rfl)
theorem w140 {a0 : Array Value} {Z : State} (hw : ∀ d ∈ tables_1, d.before a0 Z = true) : (Jvm.Cond.code ({ cls := "java/lang/Math", name := "min", desc := "(II)I" } : Jvm.MethodName) jdk_29_method_69_code (2 : Nat) (Option.some Jvm.ClassFile.FieldType.int)).before a0 Z = true := hw _ (List.mem_of_getElem? (i := 140) rfl)
theorem w141 {a0 : Array Value} {Z : State} (hw : ∀ d ∈ tables_1, d.before a0 Z = true) : (Jvm.Cond.methodLink "java/util/Arrays" (150 : Nat) ({ cls := "java/lang/System", name := "arraycopy", desc := "(Ljava/lang/Object;ILjava/lang/Object;II)V" } : Jvm.MethodName)).before a0 Z = true := hw _ (List.mem_of_getElem? (i := 141) rfl)
theorem w142 {a0 : Array Value} {Z : State} (hw : ∀ d ∈ tables_1, d.before a0 Z = true) : (Jvm.Cond.static ({ cls := "java/lang/System", name := "arraycopy", desc := "(Ljava/lang/Object;ILjava/lang/Object;II)V" } : Jvm.MethodName)).before a0 Z = true := hw _ (List.mem_of_getElem? (i := 142) rfl)
theorem w143 {a0 : Array Value} {Z : State} (hw : ∀ d ∈ tables_1, d.before a0 Z = true) : (Jvm.Cond.initialized "java/lang/System").before a0 Z = true := hw _ (List.mem_of_getElem? (i := 143) rfl)
theorem w144 {a0 : Array Value} {Z : State} (hw : ∀ d ∈ tables_1, d.before a0 Z = true) : (Jvm.Cond.native ({ cls := "java/lang/System", name := "arraycopy", desc := "(Ljava/lang/Object;ILjava/lang/Object;II)V" } : Jvm.MethodName)).before a0 Z = true := hw _ (List.mem_of_getElem? (i := 144) rfl)
theorem w145 {a0 : Array Value} {Z : State} (hw : ∀ d ∈ tables_1, d.before a0 Z = true) : (Jvm.Cond.fieldLink "java/lang/String" (9 : Nat) "java/lang/String" "value" "[B").before a0 Z = true := hw _ (List.mem_of_getElem? (i := 145) rfl)
theorem w146 {a0 : Array Value} {Z : State} (hw : ∀ d ∈ tables_1, d.before a0 Z = true) : (Jvm.Cond.laysFinal "java/lang/String" "java/lang/String" "value" "[B").before a0 Z = true := hw _ (List.mem_of_getElem? (i := 146) rfl)
theorem w147 {a0 : Array Value} {Z : State} (hw : ∀ d ∈ tables_1, d.before a0 Z = true) : (Jvm.Cond.methodLink "com/example/hradcany/hradcany/authzen/AnswerText" (35 : Nat) ({ cls := "com/example/hradcany/hradcany/input/OneLine", name := "of", desc := "(Ljava/lang/String;)Ljava/lang/String;" } : Jvm.MethodName)).before a0 Z = true := hw _ (List.mem_of_getElem? (i := 147) rfl)
theorem w148 {a0 : Array Value} {Z : State} (hw : ∀ d ∈ tables_1, d.before a0 Z = true) : (Jvm.Cond.static ({ cls := "com/example/hradcany/hradcany/input/OneLine", name := "of", desc := "(Ljava/lang/String;)Ljava/lang/String;" } : Jvm.MethodName)).before a0 Z = true := hw _ (List.mem_of_getElem? (i := 148) rfl)
theorem w149 {a0 : Array Value} {Z : State} (hw : ∀ d ∈ tables_1, d.before a0 Z = true) : (Jvm.Cond.initialized "com/example/hradcany/hradcany/input/OneLine").before a0 Z = true := hw _ (List.mem_of_getElem? (i := 149) rfl)
theorem w150 {a0 : Array Value} {Z : State} (hw : ∀ d ∈ tables_1, d.before a0 Z = true) : (Jvm.Cond.code ({ cls := "com/example/hradcany/hradcany/input/OneLine", name := "of", desc := "(Ljava/lang/String;)Ljava/lang/String;" } : Jvm.MethodName) prog_19_method_2_code (1 : Nat) (Option.some (Jvm.ClassFile.FieldType.object "java/lang/String"))).before a0 Z = true := hw _ (List.mem_of_getElem? (i := 150) rfl)
theorem w151 {a0 : Array Value} {Z : State} (hw : ∀ d ∈ tables_1, d.before a0 Z = true) : (Jvm.Cond.methodLink "com/example/hradcany/hradcany/input/OneLine" (7 : Nat) ({ cls := "com/example/hradcany/hradcany/input/OneLine", name := "written", desc := "(Ljava/lang/String;Z)Ljava/lang/String;" } : Jvm.MethodName)).before a0 Z = true := hw _ (List.mem_of_getElem? (i := 151) rfl)
theorem w152 {a0 : Array Value} {Z : State} (hw : ∀ d ∈ tables_1, d.before a0 Z = true) : (Jvm.Cond.static ({ cls := "com/example/hradcany/hradcany/input/OneLine", name := "written", desc := "(Ljava/lang/String;Z)Ljava/lang/String;" } : Jvm.MethodName)).before a0 Z = true := hw _ (List.mem_of_getElem? (i := 152) rfl)
theorem w153 {a0 : Array Value} {Z : State} (hw : ∀ d ∈ tables_1, d.before a0 Z = true) : (Jvm.Cond.code ({ cls := "com/example/hradcany/hradcany/input/OneLine", name := "written", desc := "(Ljava/lang/String;Z)Ljava/lang/String;" } : Jvm.MethodName) prog_19_method_4_code (8 : Nat) (Option.some (Jvm.ClassFile.FieldType.object "java/lang/String"))).before a0 Z = true := hw _ (List.mem_of_getElem? (i := 153) rfl)
theorem w154 {a0 : Array Value} {Z : State} (hw : ∀ d ∈ tables_1, d.before a0 Z = true) : (Jvm.Cond.methodLink "com/example/hradcany/hradcany/input/OneLine" (13 : Nat) ({ cls := "java/lang/String", name := "length", desc := "()I" } : Jvm.MethodName)).before a0 Z = true := hw _ (List.mem_of_getElem? (i := 154) rfl)
theorem w155 {a0 : Array Value} {Z : State} (hw : ∀ d ∈ tables_1, d.before a0 Z = true) : (Jvm.Cond.declares ({ cls := "java/lang/String", name := "length", desc := "()I" } : Jvm.MethodName)).before a0 Z = true := hw _ (List.mem_of_getElem? (i := 155) rfl)
theorem w156 {a0 : Array Value} {Z : State} (hw : ∀ d ∈ tables_1, d.before a0 Z = true) : (Jvm.Cond.instanceMethod ({ cls := "java/lang/String", name := "length", desc := "()I" } : Jvm.MethodName)).before a0 Z = true := hw _ (List.mem_of_getElem? (i := 156) rfl)
theorem w157 {a0 : Array Value} {Z : State} (hw : ∀ d ∈ tables_1, d.before a0 Z = true) : (Jvm.Cond.selects "java/lang/String" ({ cls := "java/lang/String", name := "length", desc := "()I" } : Jvm.MethodName) ({ cls := "java/lang/String", name := "length", desc := "()I" } : Jvm.MethodName)).before a0 Z = true := hw _ (List.mem_of_getElem? (i := 157) rfl)
theorem w158 {a0 : Array Value} {Z : State} (hw : ∀ d ∈ tables_1, d.before a0 Z = true) : (Jvm.Cond.code ({ cls := "java/lang/String", name := "length", desc := "()I" } : Jvm.MethodName) jdk_42_method_54_code (1 : Nat) (Option.some Jvm.ClassFile.FieldType.int)).before a0 Z = true := hw _ (List.mem_of_getElem? (i := 158) rfl)
theorem w159 {a0 : Array Value} {Z : State} (hw : ∀ d ∈ tables_1, d.before a0 Z = true) : (Jvm.Cond.methodLink "java/lang/String" (335 : Nat) ({ cls := "java/lang/String", name := "coder", desc := "()B" } : Jvm.MethodName)).before a0 Z = true := hw _ (List.mem_of_getElem? (i := 159) rfl)
theorem w160 {a0 : Array Value} {Z : State} (hw : ∀ d ∈ tables_1, d.before a0 Z = true) : (Jvm.Cond.declares ({ cls := "java/lang/String", name := "coder", desc := "()B" } : Jvm.MethodName)).before a0 Z = true := hw _ (List.mem_of_getElem? (i := 160) rfl)
theorem w161 {a0 : Array Value} {Z : State} (hw : ∀ d ∈ tables_1, d.before a0 Z = true) : (Jvm.Cond.instanceMethod ({ cls := "java/lang/String", name := "coder", desc := "()B" } : Jvm.MethodName)).before a0 Z = true := hw _ (List.mem_of_getElem? (i := 161) rfl)
theorem w162 {a0 : Array Value} {Z : State} (hw : ∀ d ∈ tables_1, d.before a0 Z = true) : (Jvm.Cond.selects "java/lang/String" ({ cls := "java/lang/String", name := "coder", desc := "()B" } : Jvm.MethodName) ({ cls := "java/lang/String", name := "coder", desc := "()B" } : Jvm.MethodName)).before a0 Z = true := hw _ (List.mem_of_getElem? (i := 162) rfl)
theorem w163 {a0 : Array Value} {Z : State} (hw : ∀ d ∈ tables_1, d.before a0 Z = true) : (Jvm.Cond.code ({ cls := "java/lang/String", name := "coder", desc := "()B" } : Jvm.MethodName) jdk_42_method_152_code (1 : Nat) (Option.some Jvm.ClassFile.FieldType.byte)).before a0 Z = true := hw _ (List.mem_of_getElem? (i := 163) rfl)
theorem w164 {a0 : Array Value} {Z : State} (hw : ∀ d ∈ tables_1, d.before a0 Z = true) : (Jvm.Cond.fieldLink "java/lang/String" (38 : Nat) "java/lang/String" "COMPACT_STRINGS" "Z").before a0 Z = true := hw _ (List.mem_of_getElem? (i := 164) rfl)
theorem w165 {a0 : Array Value} {Z : State} (hw : ∀ d ∈ tables_1, d.before a0 Z = true) : (Jvm.Cond.methodLink "com/example/hradcany/hradcany/authzen/AnswerText" (41 : Nat) ({ cls := "java/util/Optional", name := "empty", desc := "()Ljava/util/Optional;" } : Jvm.MethodName)).before a0 Z = true := hw _ (List.mem_of_getElem? (i := 165) rfl)
theorem w166 {a0 : Array Value} {Z : State} (hw : ∀ d ∈ tables_1, d.before a0 Z = true) : (Jvm.Cond.static ({ cls := "java/util/Optional", name := "empty", desc := "()Ljava/util/Optional;" } : Jvm.MethodName)).before a0 Z = true := hw _ (List.mem_of_getElem? (i := 166) rfl)
theorem w167 {a0 : Array Value} {Z : State} (hw : ∀ d ∈ tables_1, d.before a0 Z = true) : (Jvm.Cond.initialized "java/util/Optional").before a0 Z = true := hw _ (List.mem_of_getElem? (i := 167) rfl)
theorem w168 {a0 : Array Value} {Z : State} (hw : ∀ d ∈ tables_1, d.before a0 Z = true) : (Jvm.Cond.code ({ cls := "java/util/Optional", name := "empty", desc := "()Ljava/util/Optional;" } : Jvm.MethodName) jdk_32_method_1_code (1 : Nat) (Option.some (Jvm.ClassFile.FieldType.object "java/util/Optional"))).before a0 Z = true := hw _ (List.mem_of_getElem? (i := 168) rfl)
theorem w169 {a0 : Array Value} {Z : State} (hw : ∀ d ∈ tables_1, d.before a0 Z = true) : (Jvm.Cond.fieldLink "java/util/Optional" (1 : Nat) "java/util/Optional" "EMPTY" "Ljava/util/Optional;").before a0 Z = true := hw _ (List.mem_of_getElem? (i := 169) rfl)
theorem w170 {a0 : Array Value} {Z : State} (hw : ∀ d ∈ tables_1, d.before a0 Z = true) : (Jvm.Cond.methodLink "com/example/hradcany/hradcany/authzen/AnswerText" (47 : Nat) ({ cls := "com/example/hradcany/hradcany/authzen/AnswerText", name := "utf8Length", desc := "(Ljava/lang/String;)J" } : Jvm.MethodName)).before a0 Z = true := hw _ (List.mem_of_getElem? (i := 170) rfl)
theorem w171 {a0 : Array Value} {Z : State} (hw : ∀ d ∈ tables_1, d.before a0 Z = true) : (Jvm.Cond.static ({ cls := "com/example/hradcany/hradcany/authzen/AnswerText", name := "utf8Length", desc := "(Ljava/lang/String;)J" } : Jvm.MethodName)).before a0 Z = true := hw _ (List.mem_of_getElem? (i := 171) rfl)
theorem w172 {a0 : Array Value} {Z : State} (hw : ∀ d ∈ tables_1, d.before a0 Z = true) : (Jvm.Cond.code ({ cls := "com/example/hradcany/hradcany/authzen/AnswerText", name := "utf8Length", desc := "(Ljava/lang/String;)J" } : Jvm.MethodName) prog_1_method_8_code (5 : Nat) (Option.some Jvm.ClassFile.FieldType.long)).before a0 Z = true := hw _ (List.mem_of_getElem? (i := 172) rfl)
theorem w173 {a0 : Array Value} {Z : State} (hw : ∀ d ∈ tables_1, d.before a0 Z = true) : (Jvm.Cond.methodLink "com/example/hradcany/hradcany/authzen/AnswerText" (62 : Nat) ({ cls := "java/lang/String", name := "length", desc := "()I" } : Jvm.MethodName)).before a0 Z = true := hw _ (List.mem_of_getElem? (i := 173) rfl)
theorem w174 {a0 : Array Value} {Z : State} (hw : ∀ d ∈ tables_1, d.before a0 Z = true) : (Jvm.Cond.methodLink "com/example/hradcany/hradcany/authzen/AnswerText" (51 : Nat) ({ cls := "java/util/Optional", name := "of", desc := "(Ljava/lang/Object;)Ljava/util/Optional;" } : Jvm.MethodName)).before a0 Z = true := hw _ (List.mem_of_getElem? (i := 174) rfl)
theorem w175 {a0 : Array Value} {Z : State} (hw : ∀ d ∈ tables_1, d.before a0 Z = true) : (Jvm.Cond.static ({ cls := "java/util/Optional", name := "of", desc := "(Ljava/lang/Object;)Ljava/util/Optional;" } : Jvm.MethodName)).before a0 Z = true := hw _ (List.mem_of_getElem? (i := 175) rfl)
theorem w176 {a0 : Array Value} {Z : State} (hw : ∀ d ∈ tables_1, d.before a0 Z = true) : (Jvm.Cond.code ({ cls := "java/util/Optional", name := "of", desc := "(Ljava/lang/Object;)Ljava/util/Optional;" } : Jvm.MethodName) jdk_32_method_3_code (1 : Nat) (Option.some (Jvm.ClassFile.FieldType.object "java/util/Optional"))).before a0 Z = true := hw _ (List.mem_of_getElem? (i := 176) rfl)
theorem w177 {a0 : Array Value} {Z : State} (hw : ∀ d ∈ tables_1, d.before a0 Z = true) : (Jvm.Cond.classLink "java/util/Optional" (2 : Nat) "java/util/Optional").before a0 Z = true := hw _ (List.mem_of_getElem? (i := 177) rfl)
theorem w178 {a0 : Array Value} {Z : State} (hw : ∀ d ∈ tables_1, d.before a0 Z = true) : (Jvm.Cond.instantiable "java/util/Optional" (1 : Nat)).before a0 Z = true := hw _ (List.mem_of_getElem? (i := 178) rfl)
theorem w179 {a0 : Array Value} {Z : State} (hw : ∀ d ∈ tables_1, d.before a0 Z = true) : (Jvm.Cond.methodLink "java/util/Optional" (17 : Nat) ({ cls := "java/util/Objects", name := "requireNonNull", desc := "(Ljava/lang/Object;)Ljava/lang/Object;" } : Jvm.MethodName)).before a0 Z = true := hw _ (List.mem_of_getElem? (i := 179) rfl)
theorem w180 {a0 : Array Value} {Z : State} (hw : ∀ d ∈ tables_1, d.before a0 Z = true) : (Jvm.Cond.static ({ cls := "java/util/Objects", name := "requireNonNull", desc := "(Ljava/lang/Object;)Ljava/lang/Object;" } : Jvm.MethodName)).before a0 Z = true := hw _ (List.mem_of_getElem? (i := 180) rfl)
theorem w181 {a0 : Array Value} {Z : State} (hw : ∀ d ∈ tables_1, d.before a0 Z = true) : (Jvm.Cond.initialized "java/util/Objects").before a0 Z = true := hw _ (List.mem_of_getElem? (i := 181) rfl)
theorem w182 {a0 : Array Value} {Z : State} (hw : ∀ d ∈ tables_1, d.before a0 Z = true) : (Jvm.Cond.code ({ cls := "java/util/Objects", name := "requireNonNull", desc := "(Ljava/lang/Object;)Ljava/lang/Object;" } : Jvm.MethodName) jdk_31_method_10_code (1 : Nat) (Option.some (Jvm.ClassFile.FieldType.object "java/lang/Object"))).before a0 Z = true := hw _ (List.mem_of_getElem? (i := 182) rfl)
theorem w183 {a0 : Array Value} {Z : State} (hw : ∀ d ∈ tables_1, d.before a0 Z = true) : (Jvm.Cond.methodLink "java/util/Optional" (23 : Nat) ({ cls := "java/util/Optional", name := "<init>", desc := "(Ljava/lang/Object;)V" } : Jvm.MethodName)).before a0 Z = true := hw _ (List.mem_of_getElem? (i := 183) rfl)
theorem w184 {a0 : Array Value} {Z : State} (hw : ∀ d ∈ tables_1, d.before a0 Z = true) : (Jvm.Cond.instanceMethod ({ cls := "java/util/Optional", name := "<init>", desc := "(Ljava/lang/Object;)V" } : Jvm.MethodName)).before a0 Z = true := hw _ (List.mem_of_getElem? (i := 184) rfl)
theorem w186 {a0 : Array Value} {Z : State} (hw : ∀ d ∈ tables_1, d.before a0 Z = true) : (Jvm.Cond.code ({ cls := "java/util/Optional", name := "<init>", desc := "(Ljava/lang/Object;)V" } : Jvm.MethodName) jdk_32_method_2_code (2 : Nat) (Option.none : Option Jvm.ClassFile.FieldType)).before a0 Z = true := hw _ (List.mem_of_getElem? (i := 186) rfl)
theorem w187 {a0 : Array Value} {Z : State} (hw : ∀ d ∈ tables_1, d.before a0 Z = true) : (Jvm.Cond.methodLink "java/util/Optional" (7 : Nat) ({ cls := "java/lang/Object", name := "<init>", desc := "()V" } : Jvm.MethodName)).before a0 Z = true := hw _ (List.mem_of_getElem? (i := 187) rfl)
theorem w188 {a0 : Array Value} {Z : State} (hw : ∀ d ∈ tables_1, d.before a0 Z = true) : (Jvm.Cond.fieldLink "java/util/Optional" (13 : Nat) "java/util/Optional" "value" "Ljava/lang/Object;").before a0 Z = true := hw _ (List.mem_of_getElem? (i := 188) rfl)
theorem w189 {a0 : Array Value} {Z : State} (hw : ∀ d ∈ tables_1, d.before a0 Z = true) : (Jvm.Cond.laysFinal "java/util/Optional" "java/util/Optional" "value" "Ljava/lang/Object;").before a0 Z = true := hw _ (List.mem_of_getElem? (i := 189) rfl)
theorem w190 {a0 : Array Value} {Z : State} (hw : ∀ d ∈ tables_1, d.before a0 Z = true) : (Jvm.Cond.methodLink "com/example/hradcany/hradcany/authzen/AnswerTextWrite122PinLaw" (27 : Nat) ({ cls := "java/util/Optional", name := "orElse", desc := "(Ljava/lang/Object;)Ljava/lang/Object;" } : Jvm.MethodName)).before a0 Z = true := hw _ (List.mem_of_getElem? (i := 190) rfl)
theorem w191 {a0 : Array Value} {Z : State} (hw : ∀ d ∈ tables_1, d.before a0 Z = true) : (Jvm.Cond.declares ({ cls := "java/util/Optional", name := "orElse", desc := "(Ljava/lang/Object;)Ljava/lang/Object;" } : Jvm.MethodName)).before a0 Z = true := hw _ (List.mem_of_getElem? (i := 191) rfl)
theorem w192 {a0 : Array Value} {Z : State} (hw : ∀ d ∈ tables_1, d.before a0 Z = true) : (Jvm.Cond.instanceMethod ({ cls := "java/util/Optional", name := "orElse", desc := "(Ljava/lang/Object;)Ljava/lang/Object;" } : Jvm.MethodName)).before a0 Z = true := hw _ (List.mem_of_getElem? (i := 192) rfl)
theorem w193 {a0 : Array Value} {Z : State} (hw : ∀ d ∈ tables_1, d.before a0 Z = true) : (Jvm.Cond.selects "java/util/Optional" ({ cls := "java/util/Optional", name := "orElse", desc := "(Ljava/lang/Object;)Ljava/lang/Object;" } : Jvm.MethodName) ({ cls := "java/util/Optional", name := "orElse", desc := "(Ljava/lang/Object;)Ljava/lang/Object;" } : Jvm.MethodName)).before a0 Z = true := hw _ (List.mem_of_getElem? (i := 193) rfl)
theorem w194 {a0 : Array Value} {Z : State} (hw : ∀ d ∈ tables_1, d.before a0 Z = true) : (Jvm.Cond.code ({ cls := "java/util/Optional", name := "orElse", desc := "(Ljava/lang/Object;)Ljava/lang/Object;" } : Jvm.MethodName) jdk_32_method_15_code (2 : Nat) (Option.some (Jvm.ClassFile.FieldType.object "java/lang/Object"))).before a0 Z = true := hw _ (List.mem_of_getElem? (i := 194) rfl)
theorem w195 {a0 : Array Value} {Z : State} (hw : ∀ d ∈ tables_1, d.before a0 Z = true) : (Jvm.Cond.classLink "com/example/hradcany/hradcany/authzen/AnswerTextWrite122PinLaw" (33 : Nat) "java/lang/String").before a0 Z = true := hw _ (List.mem_of_getElem? (i := 195) rfl)
theorem w196 {a0 : Array Value} {Z : State} (hw : ∀ d ∈ tables_1, d.before a0 Z = true) : (Jvm.Cond.methodLink "com/example/hradcany/hradcany/authzen/AnswerTextWrite122PinLaw" (35 : Nat) ({ cls := "java/lang/String", name := "length", desc := "()I" } : Jvm.MethodName)).before a0 Z = true := hw _ (List.mem_of_getElem? (i := 196) rfl)
theorem w197 {a0 : Array Value} {Z : State} (hw : ∀ d ∈ tables_1, d.before a0 Z = true) : (Jvm.Cond.methodLink "com/example/hradcany/hradcany/authzen/AnswerTextWrite122PinLaw" (39 : Nat) ({ cls := "com/example/hradcany/hradcany/authzen/AnswerTextWrite122PinLaw", name := "ok", desc := "(Ljava/lang/String;[CIIII)Z" } : Jvm.MethodName)).before a0 Z = true := hw _ (List.mem_of_getElem? (i := 197) rfl)
theorem w198 {a0 : Array Value} {Z : State} (hw : ∀ d ∈ tables_1, d.before a0 Z = true) : (Jvm.Cond.static ({ cls := "com/example/hradcany/hradcany/authzen/AnswerTextWrite122PinLaw", name := "ok", desc := "(Ljava/lang/String;[CIIII)Z" } : Jvm.MethodName)).before a0 Z = true := hw _ (List.mem_of_getElem? (i := 198) rfl)
theorem w199 {a0 : Array Value} {Z : State} (hw : ∀ d ∈ tables_1, d.before a0 Z = true) : (Jvm.Cond.code ({ cls := "com/example/hradcany/hradcany/authzen/AnswerTextWrite122PinLaw", name := "ok", desc := "(Ljava/lang/String;[CIIII)Z" } : Jvm.MethodName) method_4_code (7 : Nat) (Option.some Jvm.ClassFile.FieldType.boolean)).before a0 Z = true := hw _ (List.mem_of_getElem? (i := 199) rfl)
theorem w200 {a0 : Array Value} {Z : State} (hw : ∀ d ∈ tables_1, d.before a0 Z = true) : (Jvm.Cond.methodLink "java/lang/AbstractStringBuilder" (191 : Nat) ({ cls := "java/lang/StringLatin1", name := "canEncode", desc := "(C)Z" } : Jvm.MethodName)).before a0 Z = true := hw _ (List.mem_of_getElem? (i := 200) rfl)
theorem w201 {a0 : Array Value} {Z : State} (hw : ∀ d ∈ tables_1, d.before a0 Z = true) : (Jvm.Cond.static ({ cls := "java/lang/StringLatin1", name := "canEncode", desc := "(C)Z" } : Jvm.MethodName)).before a0 Z = true := hw _ (List.mem_of_getElem? (i := 201) rfl)
theorem w202 {a0 : Array Value} {Z : State} (hw : ∀ d ∈ tables_1, d.before a0 Z = true) : (Jvm.Cond.initialized "java/lang/StringLatin1").before a0 Z = true := hw _ (List.mem_of_getElem? (i := 202) rfl)
theorem w203 {a0 : Array Value} {Z : State} (hw : ∀ d ∈ tables_1, d.before a0 Z = true) : (Jvm.Cond.code ({ cls := "java/lang/StringLatin1", name := "canEncode", desc := "(C)Z" } : Jvm.MethodName) jdk_43_method_3_code (1 : Nat) (Option.some Jvm.ClassFile.FieldType.boolean)).before a0 Z = true := hw _ (List.mem_of_getElem? (i := 203) rfl)
theorem w204 {a0 : Array Value} {Z : State} (hw : ∀ d ∈ tables_1, d.before a0 Z = true) : (Jvm.Cond.methodLink "com/example/hradcany/hradcany/input/OneLine" (19 : Nat) ({ cls := "com/example/hradcany/hradcany/input/OneLine", name := "escapes", desc := "(Ljava/lang/String;IZ)Z" } : Jvm.MethodName)).before a0 Z = true := hw _ (List.mem_of_getElem? (i := 204) rfl)
theorem w205 {a0 : Array Value} {Z : State} (hw : ∀ d ∈ tables_1, d.before a0 Z = true) : (Jvm.Cond.static ({ cls := "com/example/hradcany/hradcany/input/OneLine", name := "escapes", desc := "(Ljava/lang/String;IZ)Z" } : Jvm.MethodName)).before a0 Z = true := hw _ (List.mem_of_getElem? (i := 205) rfl)
theorem w206 {a0 : Array Value} {Z : State} (hw : ∀ d ∈ tables_1, d.before a0 Z = true) : (Jvm.Cond.code ({ cls := "com/example/hradcany/hradcany/input/OneLine", name := "escapes", desc := "(Ljava/lang/String;IZ)Z" } : Jvm.MethodName) prog_19_method_6_code (4 : Nat) (Option.some Jvm.ClassFile.FieldType.boolean)).before a0 Z = true := hw _ (List.mem_of_getElem? (i := 206) rfl)
theorem w207 {a0 : Array Value} {Z : State} (hw : ∀ d ∈ tables_1, d.before a0 Z = true) : (Jvm.Cond.methodLink "com/example/hradcany/hradcany/input/OneLine" (32 : Nat) ({ cls := "java/lang/String", name := "charAt", desc := "(I)C" } : Jvm.MethodName)).before a0 Z = true := hw _ (List.mem_of_getElem? (i := 207) rfl)
theorem w208 {a0 : Array Value} {Z : State} (hw : ∀ d ∈ tables_1, d.before a0 Z = true) : (Jvm.Cond.declares ({ cls := "java/lang/String", name := "charAt", desc := "(I)C" } : Jvm.MethodName)).before a0 Z = true := hw _ (List.mem_of_getElem? (i := 208) rfl)
theorem w209 {a0 : Array Value} {Z : State} (hw : ∀ d ∈ tables_1, d.before a0 Z = true) : (Jvm.Cond.instanceMethod ({ cls := "java/lang/String", name := "charAt", desc := "(I)C" } : Jvm.MethodName)).before a0 Z = true := hw _ (List.mem_of_getElem? (i := 209) rfl)
theorem w210 {a0 : Array Value} {Z : State} (hw : ∀ d ∈ tables_1, d.before a0 Z = true) : (Jvm.Cond.selects "java/lang/String" ({ cls := "java/lang/String", name := "charAt", desc := "(I)C" } : Jvm.MethodName) ({ cls := "java/lang/String", name := "charAt", desc := "(I)C" } : Jvm.MethodName)).before a0 Z = true := hw _ (List.mem_of_getElem? (i := 210) rfl)
theorem w211 {a0 : Array Value} {Z : State} (hw : ∀ d ∈ tables_1, d.before a0 Z = true) : (Jvm.Cond.code ({ cls := "java/lang/String", name := "charAt", desc := "(I)C" } : Jvm.MethodName) jdk_42_method_56_code (2 : Nat) (Option.some Jvm.ClassFile.FieldType.char)).before a0 Z = true := hw _ (List.mem_of_getElem? (i := 211) rfl)
theorem w212 {a0 : Array Value} {Z : State} (hw : ∀ d ∈ tables_1, d.before a0 Z = true) : (Jvm.Cond.methodLink "java/lang/String" (492 : Nat) ({ cls := "java/lang/String", name := "isLatin1", desc := "()Z" } : Jvm.MethodName)).before a0 Z = true := hw _ (List.mem_of_getElem? (i := 212) rfl)
theorem w213 {a0 : Array Value} {Z : State} (hw : ∀ d ∈ tables_1, d.before a0 Z = true) : (Jvm.Cond.declares ({ cls := "java/lang/String", name := "isLatin1", desc := "()Z" } : Jvm.MethodName)).before a0 Z = true := hw _ (List.mem_of_getElem? (i := 213) rfl)
theorem w214 {a0 : Array Value} {Z : State} (hw : ∀ d ∈ tables_1, d.before a0 Z = true) : (Jvm.Cond.instanceMethod ({ cls := "java/lang/String", name := "isLatin1", desc := "()Z" } : Jvm.MethodName)).before a0 Z = true := hw _ (List.mem_of_getElem? (i := 214) rfl)
theorem w215 {a0 : Array Value} {Z : State} (hw : ∀ d ∈ tables_1, d.before a0 Z = true) : (Jvm.Cond.selects "java/lang/String" ({ cls := "java/lang/String", name := "isLatin1", desc := "()Z" } : Jvm.MethodName) ({ cls := "java/lang/String", name := "isLatin1", desc := "()Z" } : Jvm.MethodName)).before a0 Z = true := hw _ (List.mem_of_getElem? (i := 215) rfl)
theorem w216 {a0 : Array Value} {Z : State} (hw : ∀ d ∈ tables_1, d.before a0 Z = true) : (Jvm.Cond.code ({ cls := "java/lang/String", name := "isLatin1", desc := "()Z" } : Jvm.MethodName) jdk_42_method_154_code (1 : Nat) (Option.some Jvm.ClassFile.FieldType.boolean)).before a0 Z = true := hw _ (List.mem_of_getElem? (i := 216) rfl)
theorem w217 {a0 : Array Value} {Z : State} (hw : ∀ d ∈ tables_1, d.before a0 Z = true) : (Jvm.Cond.methodLink "java/lang/String" (495 : Nat) ({ cls := "java/lang/StringLatin1", name := "charAt", desc := "([BI)C" } : Jvm.MethodName)).before a0 Z = true := hw _ (List.mem_of_getElem? (i := 217) rfl)
theorem w218 {a0 : Array Value} {Z : State} (hw : ∀ d ∈ tables_1, d.before a0 Z = true) : (Jvm.Cond.static ({ cls := "java/lang/StringLatin1", name := "charAt", desc := "([BI)C" } : Jvm.MethodName)).before a0 Z = true := hw _ (List.mem_of_getElem? (i := 218) rfl)
theorem w219 {a0 : Array Value} {Z : State} (hw : ∀ d ∈ tables_1, d.before a0 Z = true) : (Jvm.Cond.code ({ cls := "java/lang/StringLatin1", name := "charAt", desc := "([BI)C" } : Jvm.MethodName) jdk_43_method_2_code (2 : Nat) (Option.some Jvm.ClassFile.FieldType.char)).before a0 Z = true := hw _ (List.mem_of_getElem? (i := 219) rfl)
theorem w220 {a0 : Array Value} {Z : State} (hw : ∀ d ∈ tables_1, d.before a0 Z = true) : (Jvm.Cond.methodLink "java/lang/StringLatin1" (9 : Nat) ({ cls := "java/lang/String", name := "checkIndex", desc := "(II)V" } : Jvm.MethodName)).before a0 Z = true := hw _ (List.mem_of_getElem? (i := 220) rfl)
theorem w221 {a0 : Array Value} {Z : State} (hw : ∀ d ∈ tables_1, d.before a0 Z = true) : (Jvm.Cond.static ({ cls := "java/lang/String", name := "checkIndex", desc := "(II)V" } : Jvm.MethodName)).before a0 Z = true := hw _ (List.mem_of_getElem? (i := 221) rfl)
theorem w222 {a0 : Array Value} {Z : State} (hw : ∀ d ∈ tables_1, d.before a0 Z = true) : (Jvm.Cond.code ({ cls := "java/lang/String", name := "checkIndex", desc := "(II)V" } : Jvm.MethodName) jdk_42_method_155_code (2 : Nat) (Option.none : Option Jvm.ClassFile.FieldType)).before a0 Z = true := hw _ (List.mem_of_getElem? (i := 222) rfl)
theorem w223 {a0 : Array Value} {Z : State} (hw : ∀ d ∈ tables_1, d.before a0 Z = true) : (Jvm.Cond.fieldLink "java/lang/String" (1053 : Nat) "jdk/internal/util/Preconditions" "SIOOBE_FORMATTER" "Ljava/util/function/BiFunction;").before a0 Z = true := hw _ (List.mem_of_getElem? (i := 223) rfl)
theorem w224 {a0 : Array Value} {Z : State} (hw : ∀ d ∈ tables_1, d.before a0 Z = true) : (Jvm.Cond.methodLink "java/lang/String" (1059 : Nat) ({ cls := "jdk/internal/util/Preconditions", name := "checkIndex", desc := "(IILjava/util/function/BiFunction;)I" } : Jvm.MethodName)).before a0 Z = true := hw _ (List.mem_of_getElem? (i := 224) rfl)
theorem w225 {a0 : Array Value} {Z : State} (hw : ∀ d ∈ tables_1, d.before a0 Z = true) : (Jvm.Cond.static ({ cls := "jdk/internal/util/Preconditions", name := "checkIndex", desc := "(IILjava/util/function/BiFunction;)I" } : Jvm.MethodName)).before a0 Z = true := hw _ (List.mem_of_getElem? (i := 225) rfl)
theorem w226 {a0 : Array Value} {Z : State} (hw : ∀ d ∈ tables_1, d.before a0 Z = true) : (Jvm.Cond.code ({ cls := "jdk/internal/util/Preconditions", name := "checkIndex", desc := "(IILjava/util/function/BiFunction;)I" } : Jvm.MethodName) jdk_41_method_11_code (3 : Nat) (Option.some Jvm.ClassFile.FieldType.int)).before a0 Z = true := hw _ (List.mem_of_getElem? (i := 226) rfl)
theorem w227 {a0 : Array Value} {Z : State} (hw : ∀ d ∈ tables_1, d.before a0 Z = true) : (Jvm.Cond.methodLink "com/example/hradcany/hradcany/authzen/AnswerText" (65 : Nat) ({ cls := "java/lang/String", name := "charAt", desc := "(I)C" } : Jvm.MethodName)).before a0 Z = true := hw _ (List.mem_of_getElem? (i := 227) rfl)
theorem w228 {a0 : Array Value} {Z : State} (hw : ∀ d ∈ tables_1, d.before a0 Z = true) : (Jvm.Cond.methodLink "com/example/hradcany/hradcany/authzen/AnswerTextWrite122PinLaw" (43 : Nat) ({ cls := "java/lang/String", name := "charAt", desc := "(I)C" } : Jvm.MethodName)).before a0 Z = true := hw _ (List.mem_of_getElem? (i := 228) rfl)
theorem pd__I_V : parseMethodDescriptor "(I)V" = some ⟨[.int], none⟩ := by decide +kernel
theorem pd___V : parseMethodDescriptor "()V" = some ⟨[], none⟩ := by decide +kernel
theorem pd___I : parseMethodDescriptor "()I" = some ⟨[], (some .int)⟩ := by decide +kernel
theorem pd___Z : parseMethodDescriptor "()Z" = some ⟨[], (some .boolean)⟩ := by decide +kernel
theorem pd__C_Z : parseMethodDescriptor "(C)Z" = some ⟨[.char], (some .boolean)⟩ := by decide +kernel
theorem pd__IIILjava_util_function_BiFunction__I : parseMethodDescriptor "(IIILjava/util/function/BiFunction;)I" = some ⟨[.int, .int, .int, (.object "java/util/function/BiFunction")], (some .int)⟩ := by decide +kernel
theorem pd___CII_V : parseMethodDescriptor "([CII)V" = some ⟨[(.array .char), .int, .int], none⟩ := by decide +kernel
theorem pd___CII_Ljava_lang_AbstractStringBuilder_ : parseMethodDescriptor "([CII)Ljava/lang/AbstractStringBuilder;" = some ⟨[(.array .char), .int, .int], (some (.object "java/lang/AbstractStringBuilder"))⟩ := by decide +kernel
theorem pd___CII_Ljava_lang_StringBuilder_ : parseMethodDescriptor "([CII)Ljava/lang/StringBuilder;" = some ⟨[(.array .char), .int, .int], (some (.object "java/lang/StringBuilder"))⟩ := by decide +kernel
theorem pd___B : parseMethodDescriptor "()B" = some ⟨[], (some .byte)⟩ := by decide +kernel
theorem pd__IILjava_util_function_BiFunction__I : parseMethodDescriptor "(IILjava/util/function/BiFunction;)I" = some ⟨[.int, .int, (.object "java/util/function/BiFunction")], (some .int)⟩ := by decide +kernel
theorem pd__II_V : parseMethodDescriptor "(II)V" = some ⟨[.int, .int], none⟩ := by decide +kernel
theorem pd___BI_C : parseMethodDescriptor "([BI)C" = some ⟨[(.array .byte), .int], (some .char)⟩ := by decide +kernel
theorem pd__II_I : parseMethodDescriptor "(II)I" = some ⟨[.int, .int], (some .int)⟩ := by decide +kernel
theorem pd___BII__B : parseMethodDescriptor "([BII)[B" = some ⟨[(.array .byte), .int, .int], (some (.array .byte))⟩ := by decide +kernel
theorem pd____B : parseMethodDescriptor "()[B" = some ⟨[], (some (.array .byte))⟩ := by decide +kernel
theorem pd__Ljava_lang_AbstractStringBuilder_Ljava_lang_Void__V : parseMethodDescriptor "(Ljava/lang/AbstractStringBuilder;Ljava/lang/Void;)V" = some ⟨[(.object "java/lang/AbstractStringBuilder"), (.object "java/lang/Void")], none⟩ := by decide +kernel
theorem pd__Ljava_lang_StringBuilder__V : parseMethodDescriptor "(Ljava/lang/StringBuilder;)V" = some ⟨[(.object "java/lang/StringBuilder")], none⟩ := by decide +kernel
theorem pd__I_C : parseMethodDescriptor "(I)C" = some ⟨[.int], (some .char)⟩ := by decide +kernel
theorem pd__Ljava_lang_String_IZ_Z : parseMethodDescriptor "(Ljava/lang/String;IZ)Z" = some ⟨[(.object "java/lang/String"), .int, .boolean], (some .boolean)⟩ := by decide +kernel
theorem pd__Ljava_lang_String_Z_Ljava_lang_String_ : parseMethodDescriptor "(Ljava/lang/String;Z)Ljava/lang/String;" = some ⟨[(.object "java/lang/String"), .boolean], (some (.object "java/lang/String"))⟩ := by decide +kernel
theorem pd__Ljava_lang_Object__Ljava_lang_Object_ : parseMethodDescriptor "(Ljava/lang/Object;)Ljava/lang/Object;" = some ⟨[(.object "java/lang/Object")], (some (.object "java/lang/Object"))⟩ := by decide +kernel
theorem pd__Ljava_lang_Object__V : parseMethodDescriptor "(Ljava/lang/Object;)V" = some ⟨[(.object "java/lang/Object")], none⟩ := by decide +kernel
theorem pd___Ljava_lang_String_ : parseMethodDescriptor "()Ljava/lang/String;" = some ⟨[], (some (.object "java/lang/String"))⟩ := by decide +kernel
theorem pd__Ljava_lang_String__Ljava_lang_String_ : parseMethodDescriptor "(Ljava/lang/String;)Ljava/lang/String;" = some ⟨[(.object "java/lang/String")], (some (.object "java/lang/String"))⟩ := by decide +kernel
theorem pd___Ljava_util_Optional_ : parseMethodDescriptor "()Ljava/util/Optional;" = some ⟨[], (some (.object "java/util/Optional"))⟩ := by decide +kernel
theorem pd__Ljava_lang_String__J : parseMethodDescriptor "(Ljava/lang/String;)J" = some ⟨[(.object "java/lang/String")], (some .long)⟩ := by decide +kernel
theorem pd__Ljava_lang_Object__Ljava_util_Optional_ : parseMethodDescriptor "(Ljava/lang/Object;)Ljava/util/Optional;" = some ⟨[(.object "java/lang/Object")], (some (.object "java/util/Optional"))⟩ := by decide +kernel
theorem pd__II_C : parseMethodDescriptor "(II)C" = some ⟨[.int, .int], (some .char)⟩ := by decide +kernel
theorem pd__Ljava_lang_String__CIIII_Z : parseMethodDescriptor "(Ljava/lang/String;[CIIII)Z" = some ⟨[(.object "java/lang/String"), (.array .char), .int, .int, .int, .int], (some .boolean)⟩ := by decide +kernel
theorem pn_com_example_hradcany_hradcany_authzen_AnswerTextWrite122PinLaw : plainName "com/example/hradcany/hradcany/authzen/AnswerTextWrite122PinLaw" = true := by first | (simp [plainName, overriddenIn]; done) | decide +kernel
theorem pn_java_io_Writer : plainName "java/io/Writer" = true := by first | (simp [plainName, overriddenIn]; done) | decide +kernel
theorem pn_java_lang_AbstractStringBuilder : plainName "java/lang/AbstractStringBuilder" = true := by first | (simp [plainName, overriddenIn]; done) | decide +kernel
theorem pn_java_lang_StringBuilder : plainName "java/lang/StringBuilder" = true := by first | (simp [plainName, overriddenIn]; done) | decide +kernel
theorem pn_com_example_hradcany_hradcany_authzen_AnswerText : plainName "com/example/hradcany/hradcany/authzen/AnswerText" = true := by first | (simp [plainName, overriddenIn]; done) | decide +kernel
theorem pn_jdk_internal_util_Preconditions : plainName "jdk/internal/util/Preconditions" = true := by first | (simp [plainName, overriddenIn]; done) | decide +kernel
theorem pn_java_lang_StringLatin1 : plainName "java/lang/StringLatin1" = true := by first | (simp [plainName, overriddenIn]; done) | decide +kernel
theorem pn_java_lang_String : plainName "java/lang/String" = true := by first | (simp [plainName, overriddenIn]; done) | decide +kernel
theorem pn_java_util_Arrays : plainName "java/util/Arrays" = true := by first | (simp [plainName, overriddenIn]; done) | decide +kernel
theorem pn_com_example_hradcany_hradcany_input_OneLine : plainName "com/example/hradcany/hradcany/input/OneLine" = true := by first | (simp [plainName, overriddenIn]; done) | decide +kernel
theorem pn_java_util_Optional : plainName "java/util/Optional" = true := by first | (simp [plainName, overriddenIn]; done) | decide +kernel
theorem pn_java_util_Objects : plainName "java/util/Objects" = true := by first | (simp [plainName, overriddenIn]; done) | decide +kernel

theorem own_nneg {n : Int32} (h : 0 ≤ n.toInt) : ¬ n < (0 : Int32) := fun q => by
  have := Int32.lt_iff_toInt_lt.mp q
  have e : (0 : Int32).toInt = 0 := by decide
  omega
theorem own_nlt {x y : Int32} (h : y.toInt ≤ x.toInt) : ¬ x < y := fun q => by
  have := Int32.lt_iff_toInt_lt.mp q; omega
theorem own_lt {x y : Int32} (h : x.toInt < y.toInt) : x < y := Int32.lt_iff_toInt_lt.mpr h
theorem own_m255 (x : Int32) : 0 ≤ (x &&& (255 : Int32)).toInt ∧ (x &&& (255 : Int32)).toInt ≤ 255 := c_and x 255 (by decide)
/-- a char below 256 is what castore lays of it -/
theorem own_narc {x : Int32} (h1 : 0 ≤ x.toInt) (h2 : x.toInt ≤ 65535) : nar .char x = x := by
  have e : (x.toUInt32.toUInt16.toUInt32.toInt32.toInt - x.toInt) % 65536 = 0 := (c_i2c x).1
  have r := (c_i2c x).2
  have : nar .char x = x.toUInt32.toUInt16.toUInt32.toInt32 := rfl
  rw [this]
  exact Int32.toInt_inj.mp (by omega)
theorem own_i2c {x : Int32} (h1 : 0 ≤ x.toInt) (h2 : x.toInt ≤ 65535) : x.toUInt32.toUInt16.toUInt32.toInt32 = x := own_narc h1 h2

def own_l8 (x : Int32) : Int32 := x.toInt8.toInt32
theorem own_fl8 (y : Int32) : fits .byte (.int (own_l8 y)) = true := by
  have h1 := y.toInt8.le_toInt
  have h2 := y.toInt8.toInt_lt
  simp only [own_l8, fits, Bool.and_eq_true, decide_eq_true_eq, Int32.le_iff_toInt_le, Int8.toInt_toInt32, show (-128 : Int32).toInt = -128 from by decide, show (127 : Int32).toInt = 127 from by decide]
  omega

/-- a Latin-1 String that spells cs -/
def own_Str (Z : State) (h : Heap) (a : Addr) (cs : List Int32) : Prop := ∃ (t : Addr) (kb : ClassId), Exa Z h a "java/lang/String" ∧ Fld Z h a "java/lang/String" "coder" "B" (.int 0) ∧ Fld Z h a "java/lang/String" "value" "[B" (.ref t) ∧ Arv Z h t kb .byte (Int32.ofNat cs.length) ((cs.map own_l8).map Value.int) (.int 0)
theorem own_ltn {i n : Nat} (h : i < n) (hn : n < 2 ^ 31) : Int32.ofNat i < Int32.ofNat n := Int32.lt_iff_toInt_lt.mpr (by rw [Int32.toInt_ofNat_of_lt (by omega), Int32.toInt_ofNat_of_lt (by omega)]; omega)
theorem own_nltn {i n : Nat} (h : n ≤ i) (hn : i < 2 ^ 31) : ¬ Int32.ofNat i < Int32.ofNat n := fun q => by
  have := Int32.lt_iff_toInt_lt.mp q
  rw [Int32.toInt_ofNat_of_lt (by omega), Int32.toInt_ofNat_of_lt (by omega)] at this; omega
theorem own_one (i : Nat) : Int32.ofNat i + (1 : Int32) = Int32.ofNat (i + 1) := (Int32.ofNat_add i 1).symm
theorem own_onat {x : Int32} {k : Nat} (h : x.toInt = k) : x = Int32.ofNat k := Int32.toInt_inj.mp (by rw [h, Int32.toInt_ofNat_of_lt (by have := x.toInt_lt; omega)])
theorem own_natne {i n : Nat} (hi : i < 2 ^ 31) (hn : n < 2 ^ 31) (h : Int32.ofNat i = Int32.ofNat n) : i = n := by
  have := congrArg Int32.toInt h
  rw [Int32.toInt_ofNat_of_lt (by omega), Int32.toInt_ofNat_of_lt (by omega)] at this; omega
theorem own_l8m {x : Int32} (h0 : ¬ x < 0) (h1 : ¬ (255 : Int32) < x) : own_l8 x &&& (255 : Int32) = x := by
  have t : ∀ k : Fin 256, own_l8 (Int32.ofNat k.val) &&& (255 : Int32) = Int32.ofNat k.val := by decide +kernel
  have a : 0 ≤ x.toInt := by
    have := mt Int32.lt_iff_toInt_lt.mpr h0
    rw [show (0 : Int32).toInt = 0 by decide] at this; omega
  have b : x.toInt ≤ 255 := by
    have := mt Int32.lt_iff_toInt_lt.mpr h1
    rw [show (255 : Int32).toInt = 255 by decide] at this; omega
  have e : x = Int32.ofNat x.toInt.toNat := Int32.toInt_inj.mp (by rw [Int32.toInt_ofNat_of_lt (by omega)]; omega)
  rw [e]; exact t ⟨x.toInt.toNat, by omega⟩
theorem own_Str.exa {Z : State} {h : Heap} {a : Addr} {cs : List Int32} (F : own_Str Z h a cs) : Exa Z h a "java/lang/String" := by
  obtain ⟨t, kb, f1, f2, f3, f4⟩ := F; exact f1
theorem own_l8at {cs : List Int32} {i : Nat} (h : i < 2 ^ 31) (hi : i < cs.length) : ((cs.map own_l8).map Value.int).getD (Int32.ofNat i).toNatClampNeg (.int 0) = .int (own_l8 (cs.getD i 0)) := by
  have e : (Int32.ofNat i).toNatClampNeg = i := by simp only [Int32.toNatClampNeg, Int32.toInt_ofNat_of_lt h]; rfl
  rw [e]; simp [List.getD_eq_getElem?_getD, hi]
theorem own_shr0 (x : Int32) : x >>> ((0 : Int32) &&& 31) = x := by
  rw [show ((0 : Int32) &&& 31) = 0 by decide]; simp
def own_Bt (cs : List Int32) : Prop := ∀ c ∈ cs, ¬ c < 0 ∧ ¬ (255 : Int32) < c
theorem own_Bt.at {cs : List Int32} (h : own_Bt cs) {i : Nat} (hi : i < cs.length) : ¬ cs.getD i 0 < 0 ∧ ¬ (255 : Int32) < cs.getD i 0 := by
  have : cs.getD i 0 = cs[i] := by simp [List.getD_eq_getElem?_getD, hi]
  rw [this]; exact h _ (List.getElem_mem hi)
theorem own_latc {c : Int32} (h : ¬ c < 0 ∧ ¬ (255 : Int32) < c) : nar .char ((own_l8 c &&& (255 : Int32)).toUInt32.toUInt16.toUInt32.toInt32) = c ∧ nar .char c = c := by
  have a : 0 ≤ c.toInt := by
    have := mt Int32.lt_iff_toInt_lt.mpr h.1
    rw [show (0 : Int32).toInt = 0 by decide] at this; omega
  have b : c.toInt ≤ 255 := by
    have := mt Int32.lt_iff_toInt_lt.mpr h.2
    rw [show (255 : Int32).toInt = 255 by decide] at this; omega
  rw [own_l8m h.1 h.2, own_i2c a (by omega), own_narc a (by omega)]; exact ⟨rfl, rfl⟩

theorem own_cref {u : Value} (r : u.isRef = true) : u.category = 1 := by cases u <;> simp [Value.isRef] at r <;> rfl
abbrev own_B (cs : List Int32) : Prop := own_Bt cs
/-- a char that is printed as it is -/
def own_P (cs : List Int32) : Prop := ∀ c ∈ cs, 32 ≤ c.toInt ∧ c.toInt ≤ 126
theorem own_P.B {cs : List Int32} (h : own_P cs) : own_B cs := fun c hc => by
  obtain ⟨h1, h2⟩ := h c hc
  exact ⟨own_nneg (by omega), own_nlt (by show _ ≤ (255 : Int32).toInt; rw [show (255 : Int32).toInt = 255 by decide]; omega)⟩
theorem own_P.at {cs : List Int32} (h : own_P cs) {i : Nat} (hi : i < cs.length) : 32 ≤ (cs.getD i 0).toInt ∧ (cs.getD i 0).toInt ≤ 126 := by
  have : cs.getD i 0 = cs[i] := by simp [List.getD_eq_getElem?_getD, hi]
  rw [this]; exact h _ (List.getElem_mem hi)
theorem own_drawc (y : Int32) : 32 ≤ (nar .char (((32 : Int32) + (y &&& (255 : Int32)) % (95 : Int32)).toUInt32.toUInt16.toUInt32.toInt32)).toInt ∧ (nar .char (((32 : Int32) + (y &&& (255 : Int32)) % (95 : Int32)).toUInt32.toUInt16.toUInt32.toInt32)).toInt ≤ 126 := by
  have h1 := own_m255 y
  have h2 := (c_irem (y &&& (255 : Int32)) (95 : Int32) 95 (by decide)).1 h1.1
  have h3 := c_iadd (32 : Int32) ((y &&& (255 : Int32)) % (95 : Int32))
  rw [show (32 : Int32).toInt = 32 by decide] at h3
  have h4 := Int32.toInt_lt ((32 : Int32) + (y &&& (255 : Int32)) % (95 : Int32))
  have h5 := Int32.le_toInt ((32 : Int32) + (y &&& (255 : Int32)) % (95 : Int32))
  have hb : ((32 : Int32) + (y &&& (255 : Int32)) % (95 : Int32)).toInt = 32 + ((y &&& (255 : Int32)) % (95 : Int32)).toInt := by omega
  rw [own_i2c (by omega) (by omega), own_narc (by omega) (by omega)]
  omega
/-- a StringBuilder of Latin-1 whose array has 16 places -/
def own_SB (Z : State) (h : Heap) (a b : Addr) (kb : ClassId) (ds : List Int32) : Prop := own_Obj Z h a "java/lang/StringBuilder" ∧ Fld Z h a "java/lang/AbstractStringBuilder" "value" "[B" (.ref b) ∧ Fld Z h a "java/lang/AbstractStringBuilder" "coder" "B" (.int 0) ∧ Fld Z h a "java/lang/AbstractStringBuilder" "count" "I" (.int (Int32.ofNat ds.length)) ∧ Arv Z h b kb .byte (16 : Int32) ((ds.map own_l8).map Value.int) (.int 0)
theorem own_SB.ext {Z : State} {h h' : Heap} {a b : Addr} {kb : ClassId} {ds : List Int32} (F : own_SB Z h a b kb ds) (E : Ext h h') : own_SB Z h' a b kb ds := ⟨F.1.ext E, F.2.1.ext E, F.2.2.1.ext E, F.2.2.2.1.ext E, F.2.2.2.2.ext E⟩
theorem own_SB.keep {Z : State} {h h' : Heap} {a b : Addr} {kb : ClassId} {ds : List Int32} {ws : List Addr} (F : own_SB Z h a b kb ds) (K : Keep h h' ws) (q1 : a ∉ ws) (q2 : b ∉ ws) : own_SB Z h' a b kb ds := ⟨F.1.keep K, F.2.1.keep K q1, F.2.2.1.keep K q1, F.2.2.2.1.keep K q1, F.2.2.2.2.keep K q2⟩
theorem own_Str.keep {Z : State} {h h' : Heap} {a : Addr} {cs : List Int32} (F : own_Str Z h a cs) (K : Keep h h' []) : own_Str Z h' a cs := by
  obtain ⟨t, kb, f1, f2, f3, f4⟩ := F
  exact ⟨t, kb, f1.keep K, f2.keep K nin0, f3.keep K nin0, f4.keep K nin0⟩
theorem own_ens {p1 : Int32} (h1 : 0 ≤ p1.toInt) (h2 : p1.toInt ≤ 16) : ¬ (0 : Int32) < p1 - ((16 : Int32) >>> ((0 : Int32) &&& 31)) := fun q => by
  rw [show ((16 : Int32) >>> ((0 : Int32) &&& 31)) = 16 by decide] at q
  have h3 := c_isub p1 16
  have h4 := Int32.lt_iff_toInt_lt.mp q
  rw [show (0 : Int32).toInt = 0 by decide] at h4
  rw [show (16 : Int32).toInt = 16 by decide] at h3
  have h5 := Int32.toInt_lt (p1 - 16)
  omega
theorem own_ofn {n : Nat} (h : n < 2 ^ 31) : (Int32.ofNat n).toInt = n := Int32.toInt_ofNat_of_lt h
theorem own_addn (a b : Nat) : Int32.ofNat a + Int32.ofNat b = Int32.ofNat (a + b) := (Int32.ofNat_add a b).symm
theorem own_subn {a b : Nat} (h : b ≤ a) : Int32.ofNat a - Int32.ofNat b = Int32.ofNat (a - b) := by
  have e : Int32.ofNat a = Int32.ofNat (a - b) + Int32.ofNat b := by rw [own_addn]; congr 1; omega
  rw [e]; exact Int32.add_sub_cancel _ _
theorem own_clamp {n : Nat} (h : n < 2 ^ 31) : (Int32.ofNat n).toNatClampNeg = n := by
  simp only [Int32.toNatClampNeg, own_ofn h]; rfl
theorem own_charat {cs : List Int32} {i : Nat} (h : i < 2 ^ 31) : (cs.map Value.int).getD (Int32.ofNat i).toNatClampNeg (.int 0) = .int (cs.getD i 0) := by
  rw [own_clamp h]; simp only [List.getD_eq_getElem?_getD, List.getElem?_map]
  cases cs[i]? <;> rfl
theorem own_lo8 (c : Int32) : nar .byte (c.toInt8.toInt32) = own_l8 c := by
  show (c.toInt8.toInt32).toInt8.toInt32 = c.toInt8.toInt32
  simp
theorem own_takeS {cs : List Int32} {o i : Nat} (h1 : o ≤ i) (h2 : i < cs.length) : (cs.drop o).take (i - o) ++ [cs.getD i 0] = (cs.drop o).take (i + 1 - o) := by
  have e : i + 1 - o = (i - o) + 1 := by omega
  rw [e, List.take_succ]
  congr 1
  have : o + (i - o) = i := by omega
  simp [List.getElem?_drop, this, h2, List.getD_eq_getElem?_getD]
theorem own_takeL {cs : List Int32} {o n : Nat} (h : o + n ≤ cs.length) : ((cs.drop o).take n).length = n := by simp; omega

theorem own_sub0 (x : Int32) : x - (0 : Int32) = x := Int32.sub_zero x
theorem own_P.drop {cs : List Int32} (h : own_P cs) (o n : Nat) : own_P ((cs.drop o).take n) := fun c hc => h c (List.mem_of_mem_drop (List.mem_of_mem_take hc))
theorem own_P.app {cs ds : List Int32} (h : own_P cs) (h' : own_P ds) : own_P (cs ++ ds) := fun c hc => (List.mem_append.mp hc).elim (h c) (h' c)
theorem own_oneL (i : Nat) : Int64.ofNat i + (1 : Int64) = Int64.ofNat (i + 1) := (Int64.ofNat_add i 1).symm
theorem own_lcm {n : Nat} {mo : Int32} (hn : n ≤ 4000) (h : (n : Int) ≤ mo.toInt) : ¬ (0 : Int32) < lcmpW (Int64.ofNat n) mo.toInt64 := by
  have e1 : (Int64.ofNat n).toInt = n := Int64.toInt_ofNat_of_lt (by omega)
  have e2 : mo.toInt64.toInt = mo.toInt := Int32.toInt_toInt64 mo
  have h1 : ¬ Int64.ofNat n > mo.toInt64 := fun q => by
    have := Int64.lt_iff_toInt_lt.mp q; omega
  unfold lcmpW
  rw [if_neg h1]
  split <;> decide

/-- what the law says the text is -/
def own_two (cs : List Int32) (o1 n1 o2 n2 : Nat) : List Int32 := (cs.drop o1).take n1 ++ (cs.drop o2).take n2
theorem own_twoL {cs : List Int32} {o1 n1 o2 n2 : Nat} (h1 : o1 + n1 ≤ cs.length) (h2 : o2 + n2 ≤ cs.length) : (own_two cs o1 n1 o2 n2).length = n1 + n2 := by
  unfold own_two; rw [List.length_append, own_takeL h1, own_takeL h2]
theorem own_ok1 {cs : List Int32} {o1 n1 o2 n2 i : Nat} (h1 : o1 + n1 ≤ cs.length) (hi : i < n1) : (own_two cs o1 n1 o2 n2).getD i 0 = cs.getD (o1 + i) 0 := by
  unfold own_two
  simp only [List.getD_eq_getElem?_getD]
  rw [List.getElem?_append_left (by rw [own_takeL h1]; exact hi), List.getElem?_take_of_lt hi, List.getElem?_drop]
theorem own_ok2 {cs : List Int32} {o1 n1 o2 n2 i : Nat} (h1 : o1 + n1 ≤ cs.length) (hi : n1 ≤ i) (hj : i < n1 + n2) : (own_two cs o1 n1 o2 n2).getD i 0 = cs.getD (o2 + i - n1) 0 := by
  unfold own_two
  simp only [List.getD_eq_getElem?_getD]
  rw [List.getElem?_append_right (by rw [own_takeL h1]; exact hi), own_takeL h1, List.getElem?_take_of_lt (by omega), List.getElem?_drop, show o2 + (i - n1) = o2 + i - n1 by omega]
theorem own_nl {i n : Nat} (hi : i < 2 ^ 31) (hn : n < 2 ^ 31) (h : Int32.ofNat i < Int32.ofNat n) : i < n := by
  have := Int32.lt_iff_toInt_lt.mp h
  rw [own_ofn hi, own_ofn hn] at this; omega
theorem own_nnl {i n : Nat} (hi : i < 2 ^ 31) (hn : n < 2 ^ 31) (h : ¬ Int32.ofNat i < Int32.ofNat n) : n ≤ i := by
  rcases Nat.lt_or_ge i n with q | q
  · exact absurd (own_ltn q hn) h
  · exact q
theorem own_m31 (x : Int32) : 0 ≤ (x &&& (2147483647 : Int32)).toInt := (c_and x 2147483647 (by decide)).1
theorem own_len5 (x : Int32) : ∃ n : Nat, n ≤ 4 ∧ (x &&& (2147483647 : Int32)) % (5 : Int32) = Int32.ofNat n := by
  have h2 := (c_irem (x &&& (2147483647 : Int32)) (5 : Int32) 5 (by decide)).1 (own_m31 x)
  have h3 := own_m31 x
  refine ⟨((x &&& (2147483647 : Int32)) % (5 : Int32)).toInt.toNat, by omega, own_onat (by omega)⟩
theorem own_5 {o : Nat} (h : o ≤ 4) : (5 : Int32) - Int32.ofNat o = Int32.ofNat (5 - o) := own_subn (a := 5) (by omega)
theorem own_5ne {o : Nat} (h : o ≤ 4) : Int32.ofNat (5 - o) ≠ 0 := fun q => by
  have := congrArg Int32.toInt q
  rw [own_ofn (by omega), show (0 : Int32).toInt = 0 by decide] at this; omega
theorem own_cnt (x : Int32) {o : Nat} (h : o ≤ 4) : ∃ n : Nat, o + n ≤ 4 ∧ (x &&& (2147483647 : Int32)) % (Int32.ofNat (5 - o)) = Int32.ofNat n := by
  have h2 := (c_iremV (x &&& (2147483647 : Int32)) (Int32.ofNat (5 - o))).1 (own_m31 x) (by rw [own_ofn (by omega)]; omega)
  rw [own_ofn (by omega)] at h2
  exact ⟨((x &&& (2147483647 : Int32)) % (Int32.ofNat (5 - o))).toInt.toNat, by omega, own_onat (by omega)⟩
theorem own_most (e : Int32) {a : Nat} (h : a ≤ 8) : ∃ k : Nat, k ≤ 3 ∧ Int32.ofNat a + (e &&& (3 : Int32)) = Int32.ofNat (a + k) := by
  have h1 := c_and e 3 (by decide)
  rw [show (3 : Int32).toInt = 3 by decide] at h1
  refine ⟨(e &&& (3 : Int32)).toInt.toNat, by omega, ?_⟩
  rw [← own_addn]; congr 1
  exact own_onat (by omega)
theorem own_room {a b n : Nat} (h : b + n ≤ a) (ha : a ≤ 100) : ¬ (Int32.ofNat a - Int32.ofNat b) < Int32.ofNat n := by
  rw [own_subn (by omega)]; exact own_nltn (by omega) (by omega)

theorem ddr_0 : decode method_3_code 0 = .ok (.bipush 32, 2) := by decide +kernel
theorem ddr_2 : decode method_3_code 2 = .ok (.iload_n 0, 1) := by decide +kernel
theorem ddr_3 : decode method_3_code 3 = .ok (.bipush 8, 2) := by decide +kernel
theorem ddr_5 : decode method_3_code 5 = .ok (.iload_n 1, 1) := by decide +kernel
theorem ddr_6 : decode method_3_code 6 = .ok (.imul, 1) := by decide +kernel
theorem ddr_7 : decode method_3_code 7 = .ok (.iushr, 1) := by decide +kernel
theorem ddr_8 : decode method_3_code 8 = .ok (.sipush 255, 3) := by decide +kernel
theorem ddr_11 : decode method_3_code 11 = .ok (.iand, 1) := by decide +kernel
theorem ddr_12 : decode method_3_code 12 = .ok (.bipush 95, 2) := by decide +kernel
theorem ddr_14 : decode method_3_code 14 = .ok (.irem, 1) := by decide +kernel
theorem ddr_15 : decode method_3_code 15 = .ok (.iadd, 1) := by decide +kernel
theorem ddr_16 : decode method_3_code 16 = .ok (.i2c, 1) := by decide +kernel
theorem ddr_17 : decode method_3_code 17 = .ok (.ireturn, 1) := by decide +kernel
set_option maxRecDepth 65536 in
set_option maxHeartbeats 40000000 in
theorem rm_dr (l : Launch) (Z : State) (a0 : Array Value) (hw : ∀ d ∈ tables_1, d.before a0 Z = true) (p0 p1 : Int32) (h0 : Heap) (O0 : Old Z Z.heap.size h0)  :
    own_Con l Z (⟨"com/example/hradcany/hradcany/authzen/AnswerTextWrite122PinLaw", "draw", "(II)C"⟩ : MethodName) method_3_code 2 (some .char) ({ frames := 0, cells := 0, slots := 0, locals := 0 } : Room) #[(.int p0), (.int p1)] h0 (fun v h L => ∃ c, v = some (.int c) ∧ Fr Z.heap.size L ∧ h = h0 ∧ 32 ≤ c.toInt ∧ c.toInt ≤ 126) := by
  refine own_con (ls := #[.val (.int p0), .val (.int p1)]) (plainFor_of_name pn_com_example_hradcany_hradcany_authzen_AnswerTextWrite122PinLaw) (fun m => by first | (simp [entryFrame, mkF, argsToLocals, Value.category]; done) | rfl) ?_
  intro p e s m below meth c s₁ hx hby hml0 hown0 hnm0 hret0 hlk hZ X0 e0
  have hml : c.maxLocals = 2 := hml0
  have hown : s.vm.findClass "com/example/hradcany/hradcany/authzen/AnswerTextWrite122PinLaw" = some m.cls := hown0
  have hnm : meth.name = "draw" := hnm0
  have hret : meth.sig.returnType = (some .char) := hret0
  have F1 := Fr.nil Z.heap.size
  have F2 := Keep.refl h0 []
  refine own_step (T' := s₁) (g' := (mkF m 2 #[.val (.int p0), .val (.int p1)] [(.int (32 : Int32))])) (fun _ kk => XS.bipush X0.here hx rfl (hb hby ddr_0) kk) ?_
  refine own_step (T' := s₁) (g' := (mkF m 3 #[.val (.int p0), .val (.int p1)] [(.int p0), (.int (32 : Int32))])) (fun _ kk => XS.iloadN X0.here hx rfl (hb hby ddr_2) rfl kk) ?_
  refine own_step (T' := s₁) (g' := (mkF m 5 #[.val (.int p0), .val (.int p1)] [(.int (8 : Int32)), (.int p0), (.int (32 : Int32))])) (fun _ kk => XS.bipush X0.here hx rfl (hb hby ddr_3) kk) ?_
  refine own_step (T' := s₁) (g' := (mkF m 6 #[.val (.int p0), .val (.int p1)] [(.int p1), (.int (8 : Int32)), (.int p0), (.int (32 : Int32))])) (fun _ kk => XS.iloadN X0.here hx rfl (hb hby ddr_5) rfl kk) ?_
  refine own_step (T' := s₁) (g' := (mkF m 7 #[.val (.int p0), .val (.int p1)] [(.int ((8 : Int32) * p1)), (.int p0), (.int (32 : Int32))])) (fun _ kk => XS.imul X0.here hx rfl (hb hby ddr_6) rfl kk) ?_
  refine own_step (T' := s₁) (g' := (mkF m 8 #[.val (.int p0), .val (.int p1)] [(.int ((p0).toUInt32 >>> (((8 : Int32) * p1) &&& 31).toUInt32).toInt32), (.int (32 : Int32))])) (fun _ kk => XS.iushr X0.here hx rfl (hb hby ddr_7) rfl kk) ?_
  refine own_step (T' := s₁) (g' := (mkF m 11 #[.val (.int p0), .val (.int p1)] [(.int (255 : Int32)), (.int (((p0).toUInt32 >>> (((8 : Int32) * p1) &&& 31).toUInt32).toInt32)), (.int (32 : Int32))])) (fun _ kk => XS.sipush X0.here hx rfl (hb hby ddr_8) kk) ?_
  refine own_step (T' := s₁) (g' := (mkF m 12 #[.val (.int p0), .val (.int p1)] [(.int ((((p0).toUInt32 >>> (((8 : Int32) * p1) &&& 31).toUInt32).toInt32) &&& (255 : Int32))), (.int (32 : Int32))])) (fun _ kk => XS.iand X0.here hx rfl (hb hby ddr_11) rfl kk) ?_
  refine own_step (T' := s₁) (g' := (mkF m 14 #[.val (.int p0), .val (.int p1)] [(.int (95 : Int32)), (.int ((((p0).toUInt32 >>> (((8 : Int32) * p1) &&& 31).toUInt32).toInt32) &&& (255 : Int32))), (.int (32 : Int32))])) (fun _ kk => XS.bipush X0.here hx rfl (hb hby ddr_12) kk) ?_
  refine own_step (T' := s₁) (g' := (mkF m 15 #[.val (.int p0), .val (.int p1)] [(.int (((((p0).toUInt32 >>> (((8 : Int32) * p1) &&& 31).toUInt32).toInt32) &&& (255 : Int32)) % (95 : Int32))), (.int (32 : Int32))])) (fun _ kk => iremM X0 hx rfl (hb hby ddr_14) rfl (by decide) kk) ?_
  refine own_step (T' := s₁) (g' := (mkF m 16 #[.val (.int p0), .val (.int p1)] [(.int ((32 : Int32) + (((((p0).toUInt32 >>> (((8 : Int32) * p1) &&& 31).toUInt32).toInt32) &&& (255 : Int32)) % (95 : Int32))))])) (fun _ kk => XS.iadd X0.here hx rfl (hb hby ddr_15) rfl kk) ?_
  refine own_step (T' := s₁) (g' := (mkF m 17 #[.val (.int p0), .val (.int p1)] [(.int (((32 : Int32) + (((((p0).toUInt32 >>> (((8 : Int32) * p1) &&& 31).toUInt32).toInt32) &&& (255 : Int32)) % (95 : Int32))).toUInt32.toUInt16.toUInt32.toInt32))])) (fun _ kk => XS.i2c X0.here hx rfl (hb hby ddr_16) rfl kk) ?_
  exact own_retN X0 hx hlk (t := .char) hret (by simp) (hb hby ddr_17) e0 ⟨_, rfl, F1, rfl, (own_drawc _).1, (own_drawc _).2⟩ (by decide) (by decide)
theorem dwi_0 : decode jdk_2052_method_2_code 0 = .ok (.aload_n 0, 1) := by decide +kernel
theorem dwi_1 : decode jdk_2052_method_2_code 1 = .ok (.invokespecial 7, 3) := by decide +kernel
theorem dwi_4 : decode jdk_2052_method_2_code 4 = .ok (.aload_n 0, 1) := by decide +kernel
theorem dwi_5 : decode jdk_2052_method_2_code 5 = .ok (.aload_n 0, 1) := by decide +kernel
theorem dwi_6 : decode jdk_2052_method_2_code 6 = .ok (.putfield 10, 3) := by decide +kernel
theorem dwi_9 : decode jdk_2052_method_2_code 9 = .ok (.return_, 1) := by decide +kernel
set_option maxRecDepth 65536 in
set_option maxHeartbeats 40000000 in
theorem rm_wi (l : Launch) (Z : State) (a0 : Array Value) (hw : ∀ d ∈ tables_1, d.before a0 Z = true) (a1 : Addr) (h0 : Heap) (O0 : Old Z Z.heap.size h0) (O1 : own_Obj Z h0 a1 "com/example/hradcany/hradcany/authzen/AnswerText") (g1 : Z.heap.size ≤ a1) :
    own_Con l Z (⟨"java/io/Writer", "<init>", "()V"⟩ : MethodName) jdk_2052_method_2_code 1 none ({ frames := 1, cells := 0, slots := 0, locals := 12 } : Room) #[(.ref a1)] h0 (fun v h L => v = none ∧ Fr Z.heap.size L ∧ Keep h0 h [a1]) := by
  refine own_con (ls := #[.val (.ref a1)]) (plainFor_of_name pn_java_io_Writer) (fun m => by first | (simp [entryFrame, mkF, argsToLocals, Value.category]; done) | rfl) ?_
  intro p e s m below meth c s₁ hx hby hml0 hown0 hnm0 hret0 hlk hZ X0 e0
  have hml : c.maxLocals = 1 := hml0
  have hown : s.vm.findClass "java/io/Writer" = some m.cls := hown0
  have hnm : meth.name = "<init>" := hnm0
  have hret : meth.sig.returnType = none := hret0
  have F3 := Fr.nil Z.heap.size
  have F4 := Keep.refl h0 []
  have F5 := Keep.refl h0 [a1]
  refine own_step (T' := s₁) (g' := (mkF m 1 #[.val (.ref a1)] [(.ref a1)])) (fun _ kk => XS.aloadN X0.here hx rfl (hb hby dwi_0) rfl rfl kk) ?_
  obtain ⟨T6, X6, e6, st6⟩ := initO X0 hx hZ hown (w17 hw) (w18 hw) (w19 hw) e0 (g := (mkF m 1 #[.val (.ref a1)] [(.ref a1)])) rfl (by rw [hml]; rfl) rfl (hb hby dwi_1) (by decide) (W := 0) (by show 2 * 0 + _ ≤ _; first | exact Nat.le_of_eq rfl | simp [own_cref own_of_ref]) (by decide)
  refine own_step (T' := T6) (g' := (mkF m 4 #[.val (.ref a1)] [])) (fun _ kk => st6 _ kk) ?_
  refine own_step (T' := T6) (g' := (mkF m 5 #[.val (.ref a1)] [(.ref a1)])) (fun _ kk => XS.aloadN X6.here hx rfl (hb hby dwi_4) rfl rfl kk) ?_
  refine own_step (T' := T6) (g' := (mkF m 6 #[.val (.ref a1)] [(.ref a1), (.ref a1)])) (fun _ kk => XS.aloadN X6.here hx rfl (hb hby dwi_5) rfl rfl kk) ?_
  obtain ⟨u7, Fu7⟩ := O1.fld (w7 hw) (Or.inl (w21 hw) : Laid Z a0 "com/example/hradcany/hradcany/authzen/AnswerText" "java/io/Writer" "lock" "Ljava/lang/Object;")
  obtain ⟨T7, h7, X7, e7, W7, st7⟩ := putF X6 hx hZ hown (host := "") (Or.inl (w20 hw)) Via.refl e6 Fu7 O1.1 (Or.inl (w21 hw)) (w7 hw) (ty := (.object "java/lang/Object")) (by decide) rfl rfl (g := (mkF m 6 #[.val (.ref a1)] [(.ref a1), (.ref a1)])) rfl rfl (hb hby dwi_6)
  have F8 := Fr.snoc X7 F3 g1
  have F9 := O1.wr W7
  have F10 := O0.wr W7 g1
  have F11 := F5.wr W7 (Or.inl (List.mem_of_getElem? (i := 0) rfl))
  have F12 : Fld Z h7 a1 "java/io/Writer" "lock" "Ljava/lang/Object;" (.ref a1) := Fu7.same W7
  refine own_step (T' := T7) (g' := (mkF m 9 #[.val (.ref a1)] [])) (fun _ kk => st7 _ kk) ?_
  exact own_retV X7 hx hlk hret (hb hby dwi_9) e7 ⟨rfl, F8, F11⟩ (by decide) (by decide)
theorem dai_0 : decode jdk_68_method_2_code 0 = .ok (.aload_n 0, 1) := by decide +kernel
theorem dai_1 : decode jdk_68_method_2_code 1 = .ok (.invokespecial 3, 3) := by decide +kernel
theorem dai_4 : decode jdk_68_method_2_code 4 = .ok (.getstatic 18, 3) := by decide +kernel
theorem dai_7 : decode jdk_68_method_2_code 7 = .ok (.ifCond .eq 18, 3) := by decide +kernel
theorem dai_10 : decode jdk_68_method_2_code 10 = .ok (.aload_n 0, 1) := by decide +kernel
theorem dai_11 : decode jdk_68_method_2_code 11 = .ok (.iload_n 1, 1) := by decide +kernel
theorem dai_12 : decode jdk_68_method_2_code 12 = .ok (.newarray .byte, 2) := by decide +kernel
theorem dai_14 : decode jdk_68_method_2_code 14 = .ok (.putfield 15, 3) := by decide +kernel
theorem dai_17 : decode jdk_68_method_2_code 17 = .ok (.aload_n 0, 1) := by decide +kernel
theorem dai_18 : decode jdk_68_method_2_code 18 = .ok (.iconst 0, 1) := by decide +kernel
theorem dai_19 : decode jdk_68_method_2_code 19 = .ok (.putfield 22, 3) := by decide +kernel
theorem dai_22 : decode jdk_68_method_2_code 22 = .ok (.goto 16, 3) := by decide +kernel
theorem dai_25 : decode jdk_68_method_2_code 25 = .ok (.aload_n 0, 1) := by decide +kernel
theorem dai_26 : decode jdk_68_method_2_code 26 = .ok (.iload_n 1, 1) := by decide +kernel
theorem dai_27 : decode jdk_68_method_2_code 27 = .ok (.invokestatic 26, 3) := by decide +kernel
theorem dai_30 : decode jdk_68_method_2_code 30 = .ok (.putfield 15, 3) := by decide +kernel
theorem dai_33 : decode jdk_68_method_2_code 33 = .ok (.aload_n 0, 1) := by decide +kernel
theorem dai_34 : decode jdk_68_method_2_code 34 = .ok (.iconst 1, 1) := by decide +kernel
theorem dai_35 : decode jdk_68_method_2_code 35 = .ok (.putfield 22, 3) := by decide +kernel
theorem dai_38 : decode jdk_68_method_2_code 38 = .ok (.return_, 1) := by decide +kernel
set_option maxRecDepth 65536 in
set_option maxHeartbeats 40000000 in
theorem rm_ai (l : Launch) (Z : State) (a0 : Array Value) (hw : ∀ d ∈ tables_1, d.before a0 Z = true) (a1 : Addr) (zc : Int32) (h0 : Heap) (O0 : Old Z Z.heap.size h0) (O1 : own_Obj Z h0 a1 "java/lang/StringBuilder") (g1 : Z.heap.size ≤ a1) (F1 : Fld Z h0 a1 "java/lang/AbstractStringBuilder" "count" "I" (.int 0)) (SC : Sta Z Z.heap "java/lang/String" "COMPACT_STRINGS" "Z" (.int zc)) (hzc : ¬ zc = (0 : Int32)) :
    own_Con l Z (⟨"java/lang/AbstractStringBuilder", "<init>", "(I)V"⟩ : MethodName) jdk_68_method_2_code 2 none ({ frames := 1, cells := 1, slots := 16, locals := 12 } : Room) #[(.ref a1), (.int (16 : Int32))] h0 (fun v h L => ∃ b kb, v = none ∧ Fr Z.heap.size L ∧ Keep h0 h [a1] ∧ h0.size ≤ b ∧ own_SB Z h a1 b kb []) := by
  refine own_con (ls := #[.val (.ref a1), .val (.int (16 : Int32))]) (plainFor_of_name pn_java_lang_AbstractStringBuilder) (fun m => by first | (simp [entryFrame, mkF, argsToLocals, Value.category]; done) | rfl) ?_
  intro p e s m below meth c s₁ hx hby hml0 hown0 hnm0 hret0 hlk hZ X0 e0
  have hml : c.maxLocals = 2 := hml0
  have hown : s.vm.findClass "java/lang/AbstractStringBuilder" = some m.cls := hown0
  have hnm : meth.name = "<init>" := hnm0
  have hret : meth.sig.returnType = none := hret0
  have F13 := Fr.nil Z.heap.size
  have F14 := Keep.refl h0 []
  have F15 := Keep.refl h0 [a1]
  refine own_step (T' := s₁) (g' := (mkF m 1 #[.val (.ref a1), .val (.int (16 : Int32))] [(.ref a1)])) (fun _ kk => XS.aloadN X0.here hx rfl (hb hby dai_0) rfl rfl kk) ?_
  obtain ⟨T16, X16, e16, st16⟩ := initO X0 hx hZ hown (w34 hw) (w18 hw) (w19 hw) e0 (g := (mkF m 1 #[.val (.ref a1), .val (.int (16 : Int32))] [(.ref a1)])) rfl (by rw [hml]; rfl) rfl (hb hby dai_1) (by decide) (W := 0) (by show 2 * 0 + _ ≤ _; first | exact Nat.le_of_eq rfl | simp [own_cref own_of_ref]) (by decide)
  refine own_step (T' := T16) (g' := (mkF m 4 #[.val (.ref a1), .val (.int (16 : Int32))] [])) (fun _ kk => st16 _ kk) ?_
  obtain ⟨T17, X17, e17, st17⟩ := getS (host := "") X16 hx hZ hown (w35 hw) Via.refl e16 (SC.ext O0.2) (g := (mkF m 4 #[.val (.ref a1), .val (.int (16 : Int32))] [])) rfl (hb hby dai_4)
  refine own_step (T' := T17) (g' := (mkF m 7 #[.val (.ref a1), .val (.int (16 : Int32))] [(.int zc)])) (fun _ kk => st17 _ kk) ?_
  refine own_step (T' := T17) (g' := (mkF m 10 #[.val (.ref a1), .val (.int (16 : Int32))] [])) (fun _ kk => XS.ifNo X17.here hx rfl (hb hby dai_7) rfl ((if0 _ _).trans (feq hzc).1) kk) ?_
  refine own_step (T' := T17) (g' := (mkF m 11 #[.val (.ref a1), .val (.int (16 : Int32))] [(.ref a1)])) (fun _ kk => XS.aloadN X17.here hx rfl (hb hby dai_10) rfl rfl kk) ?_
  refine own_step (T' := T17) (g' := (mkF m 12 #[.val (.ref a1), .val (.int (16 : Int32))] [(.int (16 : Int32)), (.ref a1)])) (fun _ kk => XS.iloadN X17.here hx rfl (hb hby dai_11) rfl kk) ?_
  obtain ⟨T19, h19, cA19, X19, e19, E19, A19, st19⟩ := newP X17 hx hZ (aty := .byte) (w37 hw) e17 (g := (mkF m 12 #[.val (.ref a1), .val (.int (16 : Int32))] [(.int (16 : Int32)), (.ref a1)])) rfl (hb hby dai_12) rfl (by decide) (cap := 16) (by decide) (by decide) (by decide) (by decide)
  obtain ⟨a18, g19⟩ : ∃ z, z = h0.size := ⟨_, rfl⟩
  rw [← g19] at A19 st19
  have ne20 : a1 ≠ a18 := Nat.ne_of_lt (by rw [g19]; exact O1.lt)
  have ge21 : Z.heap.size ≤ a18 := by rw [g19]; exact O0.2.1
  have ng22 : h0.size ≤ a18 := by rw [g19]; exact F15.1
  have F23 := O1.ext E19
  have F24 := F1.ext E19
  have F25 := O0.ext E19
  have F26 := F15.ext E19
  have F27 : Arv Z h19 a18 cA19 .byte (16 : Int32) [] (.int 0) := Arv.new A19 (by decide)
  refine own_step (T' := T19) (g' := (mkF m 14 #[.val (.ref a1), .val (.int (16 : Int32))] [(.ref a18), (.ref a1)])) (fun _ kk => st19 _ kk) ?_
  obtain ⟨u28, Fu28⟩ := F23.fld (w23 hw) (Or.inl (w39 hw) : Laid Z a0 "java/lang/StringBuilder" "java/lang/AbstractStringBuilder" "value" "[B")
  obtain ⟨T28, h28, X28, e28, W28, st28⟩ := putF X19 hx hZ hown (host := "") (Or.inl (w38 hw)) Via.refl e19 Fu28 F23.1 (Or.inl (w39 hw)) (w23 hw) (ty := (.array .byte)) (by decide) rfl rfl (g := (mkF m 14 #[.val (.ref a1), .val (.int (16 : Int32))] [(.ref a18), (.ref a1)])) rfl rfl (hb hby dai_14)
  have F29 := Fr.snoc X28 F13 g1
  have F30 := F23.wr W28
  have F31 := F24.other W28 (Or.inr (slot_ne (Or.inl (w66 hw) : Laid Z a0 "java/lang/StringBuilder" "java/lang/AbstractStringBuilder" "count" "I") (Or.inl (w39 hw) : Laid Z a0 "java/lang/StringBuilder" "java/lang/AbstractStringBuilder" "value" "[B") (by decide) (t := .int) (t' := (.array .byte)) (by decide) (by decide)))
  have F32 := F27.other W28 (Ne.symm ne20)
  have F33 := F25.wr W28 g1
  have F34 := F26.wr W28 (Or.inl (List.mem_of_getElem? (i := 0) rfl))
  have F35 : Fld Z h28 a1 "java/lang/AbstractStringBuilder" "value" "[B" (.ref a18) := Fu28.same W28
  refine own_step (T' := T28) (g' := (mkF m 17 #[.val (.ref a1), .val (.int (16 : Int32))] [])) (fun _ kk => st28 _ kk) ?_
  refine own_step (T' := T28) (g' := (mkF m 18 #[.val (.ref a1), .val (.int (16 : Int32))] [(.ref a1)])) (fun _ kk => XS.aloadN X28.here hx rfl (hb hby dai_17) rfl rfl kk) ?_
  refine own_step (T' := T28) (g' := (mkF m 19 #[.val (.ref a1), .val (.int (16 : Int32))] [(.int (0 : Int32)), (.ref a1)])) (fun _ kk => XS.iconst X28.here hx rfl (hb hby dai_18) kk) ?_
  obtain ⟨u36, Fu36⟩ := F30.fld (w23 hw) (Or.inl (w41 hw) : Laid Z a0 "java/lang/StringBuilder" "java/lang/AbstractStringBuilder" "coder" "B")
  obtain ⟨T36, h36, X36, e36, W36, st36⟩ := putF X28 hx hZ hown (host := "") (Or.inl (w40 hw)) Via.refl e28 Fu36 F30.1 (Or.inl (w41 hw)) (w23 hw) (ty := .byte) (by decide) rfl rfl (g := (mkF m 19 #[.val (.ref a1), .val (.int (16 : Int32))] [(.int (0 : Int32)), (.ref a1)])) rfl rfl (hb hby dai_19)
  have F37 := Fr.snoc X36 F29 g1
  have F38 := F30.wr W36
  have F39 := F31.other W36 (Or.inr (slot_ne (Or.inl (w66 hw) : Laid Z a0 "java/lang/StringBuilder" "java/lang/AbstractStringBuilder" "count" "I") (Or.inl (w41 hw) : Laid Z a0 "java/lang/StringBuilder" "java/lang/AbstractStringBuilder" "coder" "B") (by decide) (t := .int) (t' := .byte) (by decide) (by decide)))
  have F40 := F32.other W36 (Ne.symm ne20)
  have F41 := F35.other W36 (Or.inr (slot_ne (Or.inl (w39 hw) : Laid Z a0 "java/lang/StringBuilder" "java/lang/AbstractStringBuilder" "value" "[B") (Or.inl (w41 hw) : Laid Z a0 "java/lang/StringBuilder" "java/lang/AbstractStringBuilder" "coder" "B") (by decide) (t := (.array .byte)) (t' := .byte) (by decide) (by decide)))
  have F42 := F33.wr W36 g1
  have F43 := F34.wr W36 (Or.inl (List.mem_of_getElem? (i := 0) rfl))
  have F44 : Fld Z h36 a1 "java/lang/AbstractStringBuilder" "coder" "B" (.int (0 : Int32)) := Fu36.same W36
  refine own_step (T' := T36) (g' := (mkF m 22 #[.val (.ref a1), .val (.int (16 : Int32))] [])) (fun _ kk => st36 _ kk) ?_
  refine own_step (T' := T36) (g' := (mkF m 38 #[.val (.ref a1), .val (.int (16 : Int32))] [])) (fun _ kk => XS.goto X36.here hx rfl (pc0 := 22) (pc' := 38) rfl (hb hby dai_22) (by decide) (by decide) kk) ?_
  exact own_retV X36 hx hlk hret (hb hby dai_38) e36 ⟨a18, _, rfl, F37, F43, ng22, ⟨F38, F41, F44, F39, F40⟩⟩ (by decide) (by decide)
theorem dsi_0 : decode jdk_67_method_1_code 0 = .ok (.aload_n 0, 1) := by decide +kernel
theorem dsi_1 : decode jdk_67_method_1_code 1 = .ok (.bipush 16, 2) := by decide +kernel
theorem dsi_3 : decode jdk_67_method_1_code 3 = .ok (.invokespecial 1, 3) := by decide +kernel
theorem dsi_6 : decode jdk_67_method_1_code 6 = .ok (.return_, 1) := by decide +kernel
set_option maxRecDepth 65536 in
set_option maxHeartbeats 40000000 in
theorem rm_si (l : Launch) (Z : State) (a0 : Array Value) (hw : ∀ d ∈ tables_1, d.before a0 Z = true) (a1 : Addr) (zc : Int32) (h0 : Heap) (O0 : Old Z Z.heap.size h0) (O1 : own_Obj Z h0 a1 "java/lang/StringBuilder") (g1 : Z.heap.size ≤ a1) (F1 : Fld Z h0 a1 "java/lang/AbstractStringBuilder" "count" "I" (.int 0)) (SC : Sta Z Z.heap "java/lang/String" "COMPACT_STRINGS" "Z" (.int zc)) (hzc : ¬ zc = (0 : Int32)) :
    own_Con l Z (⟨"java/lang/StringBuilder", "<init>", "()V"⟩ : MethodName) jdk_67_method_1_code 1 none ({ frames := 2, cells := 1, slots := 16, locals := 25 } : Room) #[(.ref a1)] h0 (fun v h L => ∃ b kb, v = none ∧ Fr Z.heap.size L ∧ Keep h0 h [a1] ∧ h0.size ≤ b ∧ own_SB Z h a1 b kb []) := by
  refine own_con (ls := #[.val (.ref a1)]) (plainFor_of_name pn_java_lang_StringBuilder) (fun m => by first | (simp [entryFrame, mkF, argsToLocals, Value.category]; done) | rfl) ?_
  intro p e s m below meth c s₁ hx hby hml0 hown0 hnm0 hret0 hlk hZ X0 e0
  have hml : c.maxLocals = 1 := hml0
  have hown : s.vm.findClass "java/lang/StringBuilder" = some m.cls := hown0
  have hnm : meth.name = "<init>" := hnm0
  have hret : meth.sig.returnType = none := hret0
  have F45 := Fr.nil Z.heap.size
  have F46 := Keep.refl h0 []
  have F47 := Keep.refl h0 [a1]
  refine own_step (T' := s₁) (g' := (mkF m 1 #[.val (.ref a1)] [(.ref a1)])) (fun _ kk => XS.aloadN X0.here hx rfl (hb hby dsi_0) rfl rfl kk) ?_
  refine own_step (T' := s₁) (g' := (mkF m 3 #[.val (.ref a1)] [(.int (16 : Int32)), (.ref a1)])) (fun _ kk => XS.bipush X0.here hx rfl (hb hby dsi_1) kk) ?_
  obtain ⟨T48, L48, _, h48, X48, e48, ⟨b, kb, rfl, Nq, Kq, gb, Sq⟩, st48⟩ := own_callC X0 hx hZ hown rfl (w28 hw) (w29 hw) (w33 hw) (w32 hw) (by decide) (a := a1) (g := (mkF m 3 #[.val (.ref a1)] [(.int (16 : Int32)), (.ref a1)])) rfl (by rw [hml]; rfl) (argsL := [(.int (16 : Int32))]) (rest := []) (rm_ai l Z a0 hw a1 zc _ O0 O1 g1 F1 SC hzc) e0 pd__I_V rfl rfl (W := 0) (by show 2 * 0 + _ ≤ _; first | exact Nat.le_of_eq rfl | simp [own_cref own_of_ref]) (hb hby dsi_3) (by decide) (by decide) (by decide) (by decide)
  have F49 := Fr.app F45 Nq
  have F50 := O1.keep Kq
  have F51 := O0.keep Kq (allS g1 all0)
  have F52 := F47.trans Kq (allS (Or.inl (List.mem_of_getElem? (i := 0) rfl)) all0)
  refine own_step (T' := T48) (g' := (mkF m 6 #[.val (.ref a1)] [])) (fun _ kk => st48 _ kk) ?_
  exact own_retV X48 hx hlk hret (hb hby dsi_6) e48 ⟨b, kb, rfl, F49, F52, gb, Sq⟩ (by decide) (by decide)
theorem dti_0 : decode prog_1_method_1_code 0 = .ok (.aload_n 0, 1) := by decide +kernel
theorem dti_1 : decode prog_1_method_1_code 1 = .ok (.invokespecial 1, 3) := by decide +kernel
theorem dti_4 : decode prog_1_method_1_code 4 = .ok (.aload_n 0, 1) := by decide +kernel
theorem dti_5 : decode prog_1_method_1_code 5 = .ok (.new 7, 3) := by decide +kernel
theorem dti_8 : decode prog_1_method_1_code 8 = .ok (.dup, 1) := by decide +kernel
theorem dti_9 : decode prog_1_method_1_code 9 = .ok (.invokespecial 9, 3) := by decide +kernel
theorem dti_12 : decode prog_1_method_1_code 12 = .ok (.putfield 10, 3) := by decide +kernel
theorem dti_15 : decode prog_1_method_1_code 15 = .ok (.aload_n 0, 1) := by decide +kernel
theorem dti_16 : decode prog_1_method_1_code 16 = .ok (.iload_n 1, 1) := by decide +kernel
theorem dti_17 : decode prog_1_method_1_code 17 = .ok (.putfield 16, 3) := by decide +kernel
theorem dti_20 : decode prog_1_method_1_code 20 = .ok (.return_, 1) := by decide +kernel
set_option maxRecDepth 65536 in
set_option maxHeartbeats 40000000 in
theorem rm_ti (l : Launch) (Z : State) (a0 : Array Value) (hw : ∀ d ∈ tables_1, d.before a0 Z = true) (a1 : Addr) (p1 zc : Int32) (h0 : Heap) (O0 : Old Z Z.heap.size h0) (O1 : own_Obj Z h0 a1 "com/example/hradcany/hradcany/authzen/AnswerText") (g1 : Z.heap.size ≤ a1) (SC : Sta Z Z.heap "java/lang/String" "COMPACT_STRINGS" "Z" (.int zc)) (hzc : ¬ zc = (0 : Int32)) :
    own_Con l Z (⟨"com/example/hradcany/hradcany/authzen/AnswerText", "<init>", "(I)V"⟩ : MethodName) prog_1_method_1_code 2 none ({ frames := 3, cells := 2, slots := 20, locals := 39 } : Room) #[(.ref a1), (.int p1)] h0 (fun v h L => ∃ sb b kb, v = none ∧ Fr Z.heap.size L ∧ Keep h0 h [a1] ∧ h0.size ≤ sb ∧ h0.size ≤ b ∧ sb ≠ b ∧ Fld Z h a1 "com/example/hradcany/hradcany/authzen/AnswerText" "text" "Ljava/lang/StringBuilder;" (.ref sb) ∧ Fld Z h a1 "com/example/hradcany/hradcany/authzen/AnswerText" "mostBytes" "I" (.int p1) ∧ own_SB Z h sb b kb []) := by
  refine own_con (ls := #[.val (.ref a1), .val (.int p1)]) (plainFor_of_name pn_com_example_hradcany_hradcany_authzen_AnswerText) (fun m => by first | (simp [entryFrame, mkF, argsToLocals, Value.category]; done) | rfl) ?_
  intro p e s m below meth c s₁ hx hby hml0 hown0 hnm0 hret0 hlk hZ X0 e0
  have hml : c.maxLocals = 2 := hml0
  have hown : s.vm.findClass "com/example/hradcany/hradcany/authzen/AnswerText" = some m.cls := hown0
  have hnm : meth.name = "<init>" := hnm0
  have hret : meth.sig.returnType = none := hret0
  have F53 := Fr.nil Z.heap.size
  have F54 := Keep.refl h0 []
  have F55 := Keep.refl h0 [a1]
  refine own_step (T' := s₁) (g' := (mkF m 1 #[.val (.ref a1), .val (.int p1)] [(.ref a1)])) (fun _ kk => XS.aloadN X0.here hx rfl (hb hby dti_0) rfl rfl kk) ?_
  obtain ⟨T56, L56, _, h56, X56, e56, ⟨rfl, Nw, Kw⟩, st56⟩ := own_callC X0 hx hZ hown rfl (w12 hw) (w13 hw) (w16 hw) (w15 hw) (by decide) (a := a1) (g := (mkF m 1 #[.val (.ref a1), .val (.int p1)] [(.ref a1)])) rfl (by rw [hml]; rfl) (argsL := []) (rest := []) (rm_wi l Z a0 hw a1 _ O0 O1 g1) e0 pd___V rfl rfl (W := 0) (by show 2 * 0 + _ ≤ _; first | exact Nat.le_of_eq rfl | simp [own_cref own_of_ref]) (hb hby dti_1) (by decide) (by decide) (by decide) (by decide)
  have F57 := Fr.app F53 Nw
  have F58 := O1.keep Kw
  have F59 := O0.keep Kw (allS g1 all0)
  have F60 := F55.trans Kw (allS (Or.inl (List.mem_of_getElem? (i := 0) rfl)) all0)
  refine own_step (T' := T56) (g' := (mkF m 4 #[.val (.ref a1), .val (.int p1)] [])) (fun _ kk => st56 _ kk) ?_
  refine own_step (T' := T56) (g' := (mkF m 5 #[.val (.ref a1), .val (.int p1)] [(.ref a1)])) (fun _ kk => XS.aloadN X56.here hx rfl (hb hby dti_4) rfl rfl kk) ?_
  obtain ⟨T61, h61, X61, e61, E61, A61, D61, U61, st61⟩ := newO X56 hx hZ hown (w22 hw) (w23 hw) (w24 hw) e56 (g := (mkF m 5 #[.val (.ref a1), .val (.int p1)] [(.ref a1)])) rfl (hb hby dti_5) (by decide) (by decide)
  obtain ⟨sb, g61⟩ : ∃ z, z = h56.size := ⟨_, rfl⟩
  rw [← g61] at A61 D61 U61 st61
  have ne62 : a1 ≠ sb := Nat.ne_of_lt (by rw [g61]; exact F58.lt)
  have ge63 : Z.heap.size ≤ sb := by rw [g61]; exact F59.2.1
  have ng64 : h0.size ≤ sb := by rw [g61]; exact F60.1
  have F65 := F58.ext E61
  have F66 := F59.ext E61
  have F67 := F60.ext E61
  have F68 : own_Obj Z h61 sb "java/lang/StringBuilder" := own_Obj.new A61 U61
  refine own_step (T' := T61) (g' := (mkF m 8 #[.val (.ref a1), .val (.int p1)] [(.ref sb), (.ref a1)])) (fun _ kk => st61 _ kk) ?_
  have F69 : Fld Z h61 sb "java/lang/AbstractStringBuilder" "count" "I" (.int 0) := D61 (Or.inl (w66 hw) : Laid Z a0 "java/lang/StringBuilder" "java/lang/AbstractStringBuilder" "count" "I") (ty := .int) (by decide)
  refine own_step (T' := T61) (g' := (mkF m 9 #[.val (.ref a1), .val (.int p1)] [(.ref sb), (.ref sb), (.ref a1)])) (fun _ kk => XS.dup X61.here hx rfl (hb hby dti_8) rfl rfl kk) ?_
  obtain ⟨T70, L70, _, h70, X70, e70, ⟨b, kb, rfl, Nq, Kq, gb, Sq⟩, st70⟩ := own_callC X61 hx hZ hown rfl (w25 hw) (w26 hw) (w27 hw) (w24 hw) (by decide) (a := sb) (g := (mkF m 9 #[.val (.ref a1), .val (.int p1)] [(.ref sb), (.ref sb), (.ref a1)])) rfl (by rw [hml]; rfl) (argsL := []) (rest := [(.ref sb), (.ref a1)]) (rm_si l Z a0 hw sb zc _ F66 F68 ge63 F69 SC hzc) e61 pd___V rfl rfl (W := 2) (by show 2 * 0 + _ ≤ _; first | exact Nat.le_of_eq rfl | simp [own_cref own_of_ref]) (hb hby dti_9) (by decide) (by decide) (by decide) (by decide)
  have ne71 : a1 ≠ b := Nat.ne_of_lt (Nat.lt_of_lt_of_le F65.lt gb)
  have ne72 : sb ≠ b := Nat.ne_of_lt (Nat.lt_of_lt_of_le F68.lt gb)
  have F73 := Nat.le_trans F66.2.1 gb
  have F74 := Nat.le_trans F67.1 gb
  have F75 := Fr.app F57 Nq
  have F76 := F65.keep Kq
  have F77 := F66.keep Kq (allS ge63 all0)
  have F78 := F67.trans Kq (allS (Or.inr ng64) all0)
  obtain ⟨OB79, FV79, FC79, FN79, AB79⟩ := id Sq
  refine own_step (T' := T70) (g' := (mkF m 12 #[.val (.ref a1), .val (.int p1)] [(.ref sb), (.ref a1)])) (fun _ kk => st70 _ kk) ?_
  obtain ⟨u80, Fu80⟩ := F76.fld (w7 hw) (Or.inr (w43 hw) : Laid Z a0 "com/example/hradcany/hradcany/authzen/AnswerText" "com/example/hradcany/hradcany/authzen/AnswerText" "text" "Ljava/lang/StringBuilder;")
  obtain ⟨T80, h80, X80, e80, W80, st80⟩ := putF X70 hx hZ hown (host := "") (Or.inl (w42 hw)) Via.refl e70 Fu80 F76.1 (Or.inr ⟨(w43 hw), rfl, hnm⟩) (w7 hw) (ty := (.object "java/lang/StringBuilder")) (by decide) rfl rfl (g := (mkF m 12 #[.val (.ref a1), .val (.int p1)] [(.ref sb), (.ref a1)])) rfl rfl (hb hby dti_12)
  have F81 := Fr.snoc X80 F75 g1
  have F82 := F76.wr W80
  have F83 := OB79.wr W80
  have F84 := FV79.other W80 (Or.inl (Ne.symm ne62))
  have F85 := FC79.other W80 (Or.inl (Ne.symm ne62))
  have F86 := FN79.other W80 (Or.inl (Ne.symm ne62))
  have F87 := AB79.other W80 (Ne.symm ne71)
  have F88 := F77.wr W80 g1
  have F89 := F78.wr W80 (Or.inl (List.mem_of_getElem? (i := 0) rfl))
  have F90 : Fld Z h80 a1 "com/example/hradcany/hradcany/authzen/AnswerText" "text" "Ljava/lang/StringBuilder;" (.ref sb) := Fu80.same W80
  refine own_step (T' := T80) (g' := (mkF m 15 #[.val (.ref a1), .val (.int p1)] [])) (fun _ kk => st80 _ kk) ?_
  refine own_step (T' := T80) (g' := (mkF m 16 #[.val (.ref a1), .val (.int p1)] [(.ref a1)])) (fun _ kk => XS.aloadN X80.here hx rfl (hb hby dti_15) rfl rfl kk) ?_
  refine own_step (T' := T80) (g' := (mkF m 17 #[.val (.ref a1), .val (.int p1)] [(.int p1), (.ref a1)])) (fun _ kk => XS.iloadN X80.here hx rfl (hb hby dti_16) rfl kk) ?_
  obtain ⟨u91, Fu91⟩ := F82.fld (w7 hw) (Or.inr (w45 hw) : Laid Z a0 "com/example/hradcany/hradcany/authzen/AnswerText" "com/example/hradcany/hradcany/authzen/AnswerText" "mostBytes" "I")
  obtain ⟨T91, h91, X91, e91, W91, st91⟩ := putF X80 hx hZ hown (host := "") (Or.inl (w44 hw)) Via.refl e80 Fu91 F82.1 (Or.inr ⟨(w45 hw), rfl, hnm⟩) (w7 hw) (ty := .int) (by decide) rfl rfl (g := (mkF m 17 #[.val (.ref a1), .val (.int p1)] [(.int p1), (.ref a1)])) rfl rfl (hb hby dti_17)
  have F92 := Fr.snoc X91 F81 g1
  have F93 := F82.wr W91
  have F94 := F83.wr W91
  have F95 := F84.other W91 (Or.inl (Ne.symm ne62))
  have F96 := F85.other W91 (Or.inl (Ne.symm ne62))
  have F97 := F86.other W91 (Or.inl (Ne.symm ne62))
  have F98 := F87.other W91 (Ne.symm ne71)
  have F99 := F90.other W91 (Or.inr (slot_ne (Or.inr (w43 hw) : Laid Z a0 "com/example/hradcany/hradcany/authzen/AnswerText" "com/example/hradcany/hradcany/authzen/AnswerText" "text" "Ljava/lang/StringBuilder;") (Or.inr (w45 hw) : Laid Z a0 "com/example/hradcany/hradcany/authzen/AnswerText" "com/example/hradcany/hradcany/authzen/AnswerText" "mostBytes" "I") (by decide) (t := (.object "java/lang/StringBuilder")) (t' := .int) (by decide) (by decide)))
  have F100 := F88.wr W91 g1
  have F101 := F89.wr W91 (Or.inl (List.mem_of_getElem? (i := 0) rfl))
  have F102 : Fld Z h91 a1 "com/example/hradcany/hradcany/authzen/AnswerText" "mostBytes" "I" (.int p1) := Fu91.same W91
  refine own_step (T' := T91) (g' := (mkF m 20 #[.val (.ref a1), .val (.int p1)] [])) (fun _ kk => st91 _ kk) ?_
  exact own_retV X91 hx hlk hret (hb hby dti_20) e91 ⟨sb, b, kb, rfl, F92, F101, ng64, F74, ne72, F99, F102, ⟨F94, F95, F96, F97, F98⟩⟩ (by decide) (by decide)
theorem dal_0 : decode jdk_68_method_6_code 0 = .ok (.aload_n 0, 1) := by decide +kernel
theorem dal_1 : decode jdk_68_method_6_code 1 = .ok (.getfield 79, 3) := by decide +kernel
theorem dal_4 : decode jdk_68_method_6_code 4 = .ok (.ireturn, 1) := by decide +kernel
set_option maxRecDepth 65536 in
set_option maxHeartbeats 40000000 in
theorem rm_al (l : Launch) (Z : State) (a0 : Array Value) (hw : ∀ d ∈ tables_1, d.before a0 Z = true) (a1 : Addr) (n : Int32) (h0 : Heap) (O0 : Old Z Z.heap.size h0) (FN : Fld Z h0 a1 "java/lang/AbstractStringBuilder" "count" "I" (.int n)) :
    own_Con l Z (⟨"java/lang/AbstractStringBuilder", "length", "()I"⟩ : MethodName) jdk_68_method_6_code 1 (some .int) ({ frames := 0, cells := 0, slots := 0, locals := 0 } : Room) #[(.ref a1)] h0 (fun v h L => v = some (.int n) ∧ Fr Z.heap.size L ∧ h = h0) := by
  refine own_con (ls := #[.val (.ref a1)]) (plainFor_of_name pn_java_lang_AbstractStringBuilder) (fun m => by first | (simp [entryFrame, mkF, argsToLocals, Value.category]; done) | rfl) ?_
  intro p e s m below meth c s₁ hx hby hml0 hown0 hnm0 hret0 hlk hZ X0 e0
  have hml : c.maxLocals = 1 := hml0
  have hown : s.vm.findClass "java/lang/AbstractStringBuilder" = some m.cls := hown0
  have hnm : meth.name = "length" := hnm0
  have hret : meth.sig.returnType = (some .int) := hret0
  have F103 := Fr.nil Z.heap.size
  have F104 := Keep.refl h0 []
  refine own_step (T' := s₁) (g' := (mkF m 1 #[.val (.ref a1)] [(.ref a1)])) (fun _ kk => XS.aloadN X0.here hx rfl (hb hby dal_0) rfl rfl kk) ?_
  obtain ⟨T105, X105, e105, st105⟩ := getF X0 hx hZ hown (host := "") (Or.inl (w65 hw)) Via.refl e0 FN (g := (mkF m 1 #[.val (.ref a1)] [(.ref a1)])) rfl rfl (hb hby dal_1)
  refine own_step (T' := T105) (g' := (mkF m 4 #[.val (.ref a1)] [(.int n)])) (fun _ kk => st105 _ kk) ?_
  exact own_retI X105 hx hlk hret (hb hby dal_4) e105 ⟨rfl, F103, rfl⟩ (by decide) (by decide)
theorem dsl_0 : decode jdk_67_method_93_code 0 = .ok (.aload_n 0, 1) := by decide +kernel
theorem dsl_1 : decode jdk_67_method_93_code 1 = .ok (.invokespecial 343, 3) := by decide +kernel
theorem dsl_4 : decode jdk_67_method_93_code 4 = .ok (.ireturn, 1) := by decide +kernel
set_option maxRecDepth 65536 in
set_option maxHeartbeats 40000000 in
theorem rm_sl (l : Launch) (Z : State) (a0 : Array Value) (hw : ∀ d ∈ tables_1, d.before a0 Z = true) (a1 : Addr) (n : Int32) (h0 : Heap) (O0 : Old Z Z.heap.size h0) (E1 : Exa Z h0 a1 "java/lang/StringBuilder") (FN : Fld Z h0 a1 "java/lang/AbstractStringBuilder" "count" "I" (.int n)) :
    own_Con l Z (⟨"java/lang/StringBuilder", "length", "()I"⟩ : MethodName) jdk_67_method_93_code 1 (some .int) ({ frames := 1, cells := 0, slots := 0, locals := 12 } : Room) #[(.ref a1)] h0 (fun v h L => v = some (.int n) ∧ Fr Z.heap.size L ∧ h = h0) := by
  refine own_con (ls := #[.val (.ref a1)]) (plainFor_of_name pn_java_lang_StringBuilder) (fun m => by first | (simp [entryFrame, mkF, argsToLocals, Value.category]; done) | rfl) ?_
  intro p e s m below meth c s₁ hx hby hml0 hown0 hnm0 hret0 hlk hZ X0 e0
  have hml : c.maxLocals = 1 := hml0
  have hown : s.vm.findClass "java/lang/StringBuilder" = some m.cls := hown0
  have hnm : meth.name = "length" := hnm0
  have hret : meth.sig.returnType = (some .int) := hret0
  have F106 := Fr.nil Z.heap.size
  have F107 := Keep.refl h0 []
  refine own_step (T' := s₁) (g' := (mkF m 1 #[.val (.ref a1)] [(.ref a1)])) (fun _ kk => XS.aloadN X0.here hx rfl (hb hby dsl_0) rfl rfl kk) ?_
  obtain ⟨T109, L109, _, h109, X109, e109, ⟨rfl, Nq108, eh108⟩, st109⟩ := own_callSup X0 hx hZ hown (w60 hw) (show own_NI Z "java/lang/AbstractStringBuilder" from own_NI.sel (w85 hw)) (w62 hw) (w61 hw) (w64 hw) (w32 hw) (by decide) (by decide) E1 (g := (mkF m 1 #[.val (.ref a1)] [(.ref a1)])) rfl (by rw [hml]; rfl) (argsL := []) (rest := []) (rm_al l Z a0 hw a1 n _ O0 FN) e0 pd___I rfl rfl (W := 0) (by show 2 * 0 + _ ≤ _; first | exact Nat.le_of_eq rfl | simp [own_cref own_of_ref]) (hb hby dsl_1) (by decide) (by decide) (by decide) (by decide)
  have F110 := Fr.app F106 Nq108
  have F111 := e109.trans eh108
  refine own_step (T' := T109) (g' := (mkF m 4 #[.val (.ref a1)] [(.int n)])) (fun _ kk => st109 _ kk) ?_
  exact own_retI X109 hx hlk hret (hb hby dsl_4) F111 ⟨rfl, F110, rfl⟩ (by decide) (by decide)
theorem dtk_0 : decode prog_1_method_7_code 0 = .ok (.iload_n 1, 1) := by decide +kernel
theorem dtk_1 : decode prog_1_method_7_code 1 = .ok (.aload_n 0, 1) := by decide +kernel
theorem dtk_2 : decode prog_1_method_7_code 2 = .ok (.getfield 16, 3) := by decide +kernel
theorem dtk_5 : decode prog_1_method_7_code 5 = .ok (.aload_n 0, 1) := by decide +kernel
theorem dtk_6 : decode prog_1_method_7_code 6 = .ok (.getfield 10, 3) := by decide +kernel
theorem dtk_9 : decode prog_1_method_7_code 9 = .ok (.invokevirtual 54, 3) := by decide +kernel
theorem dtk_12 : decode prog_1_method_7_code 12 = .ok (.isub, 1) := by decide +kernel
theorem dtk_13 : decode prog_1_method_7_code 13 = .ok (.if_icmp .le 15, 3) := by decide +kernel
theorem dtk_16 : decode prog_1_method_7_code 16 = .ok (.new 58, 3) := by decide +kernel
theorem dtk_19 : decode prog_1_method_7_code 19 = .ok (.dup, 1) := by decide +kernel
theorem dtk_20 : decode prog_1_method_7_code 20 = .ok (.aload_n 0, 1) := by decide +kernel
theorem dtk_21 : decode prog_1_method_7_code 21 = .ok (.getfield 16, 3) := by decide +kernel
theorem dtk_24 : decode prog_1_method_7_code 24 = .ok (.invokespecial 60, 3) := by decide +kernel
theorem dtk_27 : decode prog_1_method_7_code 27 = .ok (.athrow, 1) := by decide +kernel
theorem dtk_28 : decode prog_1_method_7_code 28 = .ok (.return_, 1) := by decide +kernel
set_option maxRecDepth 65536 in
set_option maxHeartbeats 40000000 in
theorem rm_tk (l : Launch) (Z : State) (a0 : Array Value) (hw : ∀ d ∈ tables_1, d.before a0 Z = true) (a1 sb : Addr) (p1 mo n : Int32) (h0 : Heap) (O0 : Old Z Z.heap.size h0) (FT : Fld Z h0 a1 "com/example/hradcany/hradcany/authzen/AnswerText" "text" "Ljava/lang/StringBuilder;" (.ref sb)) (FM : Fld Z h0 a1 "com/example/hradcany/hradcany/authzen/AnswerText" "mostBytes" "I" (.int mo)) (E1 : Exa Z h0 sb "java/lang/StringBuilder") (FN : Fld Z h0 sb "java/lang/AbstractStringBuilder" "count" "I" (.int n)) (hle : ¬ (mo - n) < p1) :
    own_Con l Z (⟨"com/example/hradcany/hradcany/authzen/AnswerText", "take", "(I)V"⟩ : MethodName) prog_1_method_7_code 2 none ({ frames := 2, cells := 0, slots := 0, locals := 26 } : Room) #[(.ref a1), (.int p1)] h0 (fun v h L => v = none ∧ Fr Z.heap.size L ∧ h = h0) := by
  refine own_con (ls := #[.val (.ref a1), .val (.int p1)]) (plainFor_of_name pn_com_example_hradcany_hradcany_authzen_AnswerText) (fun m => by first | (simp [entryFrame, mkF, argsToLocals, Value.category]; done) | rfl) ?_
  intro p e s m below meth c s₁ hx hby hml0 hown0 hnm0 hret0 hlk hZ X0 e0
  have hml : c.maxLocals = 2 := hml0
  have hown : s.vm.findClass "com/example/hradcany/hradcany/authzen/AnswerText" = some m.cls := hown0
  have hnm : meth.name = "take" := hnm0
  have hret : meth.sig.returnType = none := hret0
  have F112 := Fr.nil Z.heap.size
  have F113 := Keep.refl h0 []
  refine own_step (T' := s₁) (g' := (mkF m 1 #[.val (.ref a1), .val (.int p1)] [(.int p1)])) (fun _ kk => XS.iloadN X0.here hx rfl (hb hby dtk_0) rfl kk) ?_
  refine own_step (T' := s₁) (g' := (mkF m 2 #[.val (.ref a1), .val (.int p1)] [(.ref a1), (.int p1)])) (fun _ kk => XS.aloadN X0.here hx rfl (hb hby dtk_1) rfl rfl kk) ?_
  obtain ⟨T114, X114, e114, st114⟩ := getF X0 hx hZ hown (host := "") (Or.inl (w44 hw)) Via.refl e0 FM (g := (mkF m 2 #[.val (.ref a1), .val (.int p1)] [(.ref a1), (.int p1)])) rfl rfl (hb hby dtk_2)
  refine own_step (T' := T114) (g' := (mkF m 5 #[.val (.ref a1), .val (.int p1)] [(.int mo), (.int p1)])) (fun _ kk => st114 _ kk) ?_
  refine own_step (T' := T114) (g' := (mkF m 6 #[.val (.ref a1), .val (.int p1)] [(.ref a1), (.int mo), (.int p1)])) (fun _ kk => XS.aloadN X114.here hx rfl (hb hby dtk_5) rfl rfl kk) ?_
  obtain ⟨T115, X115, e115, st115⟩ := getF X114 hx hZ hown (host := "") (Or.inl (w42 hw)) Via.refl e114 FT (g := (mkF m 6 #[.val (.ref a1), .val (.int p1)] [(.ref a1), (.int mo), (.int p1)])) rfl rfl (hb hby dtk_6)
  refine own_step (T' := T115) (g' := (mkF m 9 #[.val (.ref a1), .val (.int p1)] [(.ref sb), (.int mo), (.int p1)])) (fun _ kk => st115 _ kk) ?_
  obtain ⟨T117, L117, _, h117, X117, e117, ⟨rfl, Nq116, eh116⟩, st117⟩ := own_callV X115 hx hZ hown (w55 hw) (w56 hw) (w58 hw) (w57 hw) (w59 hw) (w24 hw) (by decide) E1 (g := (mkF m 9 #[.val (.ref a1), .val (.int p1)] [(.ref sb), (.int mo), (.int p1)])) rfl (by rw [hml]; rfl) (argsL := []) (rest := [(.int mo), (.int p1)]) (rm_sl l Z a0 hw sb n _ O0 E1 FN) e115 pd___I rfl rfl (W := 2) (by show 2 * 0 + _ ≤ _; first | exact Nat.le_of_eq rfl | simp [own_cref own_of_ref]) (hb hby dtk_9) (by decide) (by decide) (by decide) (by decide)
  have F118 := Fr.app F112 Nq116
  have F119 := e117.trans eh116
  refine own_step (T' := T117) (g' := (mkF m 12 #[.val (.ref a1), .val (.int p1)] [(.int n), (.int mo), (.int p1)])) (fun _ kk => st117 _ kk) ?_
  refine own_step (T' := T117) (g' := (mkF m 13 #[.val (.ref a1), .val (.int p1)] [(.int (mo - n)), (.int p1)])) (fun _ kk => XS.isub X117.here hx rfl (hb hby dtk_12) rfl kk) ?_
  refine own_step (T' := T117) (g' := (mkF m 28 #[.val (.ref a1), .val (.int p1)] [])) (fun _ kk => XS.icmpYes X117.here hx rfl (pc0 := 13) (pc' := 28) rfl (hb hby dtk_13) rfl (flt hle).2.2.2 (by decide) (by decide) kk) ?_
  exact own_retV X117 hx hlk hret (hb hby dtk_28) F119 ⟨rfl, F118, rfl⟩ (by decide) (by decide)
theorem dcf_0 : decode jdk_41_method_12_code 0 = .ok (.iload_n 0, 1) := by decide +kernel
theorem dcf_1 : decode jdk_41_method_12_code 1 = .ok (.ifCond .lt 13, 3) := by decide +kernel
theorem dcf_4 : decode jdk_41_method_12_code 4 = .ok (.iload_n 0, 1) := by decide +kernel
theorem dcf_5 : decode jdk_41_method_12_code 5 = .ok (.iload_n 1, 1) := by decide +kernel
theorem dcf_6 : decode jdk_41_method_12_code 6 = .ok (.if_icmp .gt 8, 3) := by decide +kernel
theorem dcf_9 : decode jdk_41_method_12_code 9 = .ok (.iload_n 1, 1) := by decide +kernel
theorem dcf_10 : decode jdk_41_method_12_code 10 = .ok (.iload_n 2, 1) := by decide +kernel
theorem dcf_11 : decode jdk_41_method_12_code 11 = .ok (.if_icmp .le 11, 3) := by decide +kernel
theorem dcf_14 : decode jdk_41_method_12_code 14 = .ok (.aload_n 3, 1) := by decide +kernel
theorem dcf_15 : decode jdk_41_method_12_code 15 = .ok (.iload_n 0, 1) := by decide +kernel
theorem dcf_16 : decode jdk_41_method_12_code 16 = .ok (.iload_n 1, 1) := by decide +kernel
theorem dcf_17 : decode jdk_41_method_12_code 17 = .ok (.iload_n 2, 1) := by decide +kernel
theorem dcf_18 : decode jdk_41_method_12_code 18 = .ok (.invokestatic 99, 3) := by decide +kernel
theorem dcf_21 : decode jdk_41_method_12_code 21 = .ok (.athrow, 1) := by decide +kernel
theorem dcf_22 : decode jdk_41_method_12_code 22 = .ok (.iload_n 0, 1) := by decide +kernel
theorem dcf_23 : decode jdk_41_method_12_code 23 = .ok (.ireturn, 1) := by decide +kernel
set_option maxRecDepth 65536 in
set_option maxHeartbeats 40000000 in
theorem rm_cf (l : Launch) (Z : State) (a0 : Array Value) (hw : ∀ d ∈ tables_1, d.before a0 Z = true) (p0 p1 p2 : Int32) (fi : Value) (rfi : fi.isRef = true) (h0 : Heap) (O0 : Old Z Z.heap.size h0) (h1 : ¬ p0 < 0) (h2 : ¬ p1 < p0) (h3 : ¬ p2 < p1) :
    own_Con l Z (⟨"jdk/internal/util/Preconditions", "checkFromToIndex", "(IIILjava/util/function/BiFunction;)I"⟩ : MethodName) jdk_41_method_12_code 4 (some .int) ({ frames := 0, cells := 0, slots := 0, locals := 0 } : Room) #[(.int p0), (.int p1), (.int p2), fi] h0 (fun v h L => v = some (.int p0) ∧ Fr Z.heap.size L ∧ h = h0) := by
  refine own_con (ls := #[.val (.int p0), .val (.int p1), .val (.int p2), .val fi]) (plainFor_of_name pn_jdk_internal_util_Preconditions) (fun m => by rcases ref_cases rfi with rfl | ⟨_, rfl⟩ <;> (simp [entryFrame, mkF, argsToLocals, Value.category])) ?_
  intro p e s m below meth c s₁ hx hby hml0 hown0 hnm0 hret0 hlk hZ X0 e0
  have hml : c.maxLocals = 4 := hml0
  have hown : s.vm.findClass "jdk/internal/util/Preconditions" = some m.cls := hown0
  have hnm : meth.name = "checkFromToIndex" := hnm0
  have hret : meth.sig.returnType = (some .int) := hret0
  have F120 := Fr.nil Z.heap.size
  have F121 := Keep.refl h0 []
  refine own_step (T' := s₁) (g' := (mkF m 1 #[.val (.int p0), .val (.int p1), .val (.int p2), .val fi] [(.int p0)])) (fun _ kk => XS.iloadN X0.here hx rfl (hb hby dcf_0) rfl kk) ?_
  refine own_step (T' := s₁) (g' := (mkF m 4 #[.val (.int p0), .val (.int p1), .val (.int p2), .val fi] [])) (fun _ kk => XS.ifNo X0.here hx rfl (hb hby dcf_1) rfl ((if0 _ _).trans (flt h1).1) kk) ?_
  refine own_step (T' := s₁) (g' := (mkF m 5 #[.val (.int p0), .val (.int p1), .val (.int p2), .val fi] [(.int p0)])) (fun _ kk => XS.iloadN X0.here hx rfl (hb hby dcf_4) rfl kk) ?_
  refine own_step (T' := s₁) (g' := (mkF m 6 #[.val (.int p0), .val (.int p1), .val (.int p2), .val fi] [(.int p1), (.int p0)])) (fun _ kk => XS.iloadN X0.here hx rfl (hb hby dcf_5) rfl kk) ?_
  refine own_step (T' := s₁) (g' := (mkF m 9 #[.val (.int p0), .val (.int p1), .val (.int p2), .val fi] [])) (fun _ kk => XS.icmpNo X0.here hx rfl (hb hby dcf_6) rfl (flt h2).2.2.1 kk) ?_
  refine own_step (T' := s₁) (g' := (mkF m 10 #[.val (.int p0), .val (.int p1), .val (.int p2), .val fi] [(.int p1)])) (fun _ kk => XS.iloadN X0.here hx rfl (hb hby dcf_9) rfl kk) ?_
  refine own_step (T' := s₁) (g' := (mkF m 11 #[.val (.int p0), .val (.int p1), .val (.int p2), .val fi] [(.int p2), (.int p1)])) (fun _ kk => XS.iloadN X0.here hx rfl (hb hby dcf_10) rfl kk) ?_
  refine own_step (T' := s₁) (g' := (mkF m 22 #[.val (.int p0), .val (.int p1), .val (.int p2), .val fi] [])) (fun _ kk => XS.icmpYes X0.here hx rfl (pc0 := 11) (pc' := 22) rfl (hb hby dcf_11) rfl (flt h3).2.2.2 (by decide) (by decide) kk) ?_
  refine own_step (T' := s₁) (g' := (mkF m 23 #[.val (.int p0), .val (.int p1), .val (.int p2), .val fi] [(.int p0)])) (fun _ kk => XS.iloadN X0.here hx rfl (hb hby dcf_22) rfl kk) ?_
  exact own_retI X0 hx hlk hret (hb hby dcf_23) e0 ⟨rfl, F120, rfl⟩ (by decide) (by decide)
theorem den_0 : decode jdk_68_method_9_code 0 = .ok (.aload_n 0, 1) := by decide +kernel
theorem den_1 : decode jdk_68_method_9_code 1 = .ok (.getfield 15, 3) := by decide +kernel
theorem den_4 : decode jdk_68_method_9_code 4 = .ok (.arraylength, 1) := by decide +kernel
theorem den_5 : decode jdk_68_method_9_code 5 = .ok (.aload_n 0, 1) := by decide +kernel
theorem den_6 : decode jdk_68_method_9_code 6 = .ok (.getfield 22, 3) := by decide +kernel
theorem den_9 : decode jdk_68_method_9_code 9 = .ok (.ishr, 1) := by decide +kernel
theorem den_10 : decode jdk_68_method_9_code 10 = .ok (.istore_n 2, 1) := by decide +kernel
theorem den_11 : decode jdk_68_method_9_code 11 = .ok (.iload_n 1, 1) := by decide +kernel
theorem den_12 : decode jdk_68_method_9_code 12 = .ok (.iload_n 2, 1) := by decide +kernel
theorem den_13 : decode jdk_68_method_9_code 13 = .ok (.isub, 1) := by decide +kernel
theorem den_14 : decode jdk_68_method_9_code 14 = .ok (.ifCond .le 24, 3) := by decide +kernel
theorem den_17 : decode jdk_68_method_9_code 17 = .ok (.aload_n 0, 1) := by decide +kernel
theorem den_18 : decode jdk_68_method_9_code 18 = .ok (.aload_n 0, 1) := by decide +kernel
theorem den_19 : decode jdk_68_method_9_code 19 = .ok (.getfield 15, 3) := by decide +kernel
theorem den_22 : decode jdk_68_method_9_code 22 = .ok (.aload_n 0, 1) := by decide +kernel
theorem den_23 : decode jdk_68_method_9_code 23 = .ok (.iload_n 1, 1) := by decide +kernel
theorem den_24 : decode jdk_68_method_9_code 24 = .ok (.invokevirtual 104, 3) := by decide +kernel
theorem den_27 : decode jdk_68_method_9_code 27 = .ok (.aload_n 0, 1) := by decide +kernel
theorem den_28 : decode jdk_68_method_9_code 28 = .ok (.getfield 22, 3) := by decide +kernel
theorem den_31 : decode jdk_68_method_9_code 31 = .ok (.ishl, 1) := by decide +kernel
theorem den_32 : decode jdk_68_method_9_code 32 = .ok (.invokestatic 108, 3) := by decide +kernel
theorem den_35 : decode jdk_68_method_9_code 35 = .ok (.putfield 15, 3) := by decide +kernel
theorem den_38 : decode jdk_68_method_9_code 38 = .ok (.return_, 1) := by decide +kernel
set_option maxRecDepth 65536 in
set_option maxHeartbeats 40000000 in
theorem rm_en (l : Launch) (Z : State) (a0 : Array Value) (hw : ∀ d ∈ tables_1, d.before a0 Z = true) (a1 b : Addr) (kb : ClassId) (ds : List Int32) (p1 : Int32) (h0 : Heap) (O0 : Old Z Z.heap.size h0) (hsb : own_SB Z h0 a1 b kb ds) (hp : 0 ≤ p1.toInt ∧ p1.toInt ≤ 16) :
    own_Con l Z (⟨"java/lang/AbstractStringBuilder", "ensureCapacityInternal", "(I)V"⟩ : MethodName) jdk_68_method_9_code 3 none ({ frames := 0, cells := 0, slots := 0, locals := 0 } : Room) #[(.ref a1), (.int p1)] h0 (fun v h L => v = none ∧ Fr Z.heap.size L ∧ h = h0) := by
  refine own_con (ls := #[.val (.ref a1), .val (.int p1), .unset]) (plainFor_of_name pn_java_lang_AbstractStringBuilder) (fun m => by first | (simp [entryFrame, mkF, argsToLocals, Value.category]; done) | rfl) ?_
  intro p e s m below meth c s₁ hx hby hml0 hown0 hnm0 hret0 hlk hZ X0 e0
  have hml : c.maxLocals = 3 := hml0
  have hown : s.vm.findClass "java/lang/AbstractStringBuilder" = some m.cls := hown0
  have hnm : meth.name = "ensureCapacityInternal" := hnm0
  have hret : meth.sig.returnType = none := hret0
  have F122 := Fr.nil Z.heap.size
  have F123 := Keep.refl h0 []
  obtain ⟨OB124, FV124, FC124, FN124, AB124⟩ := id hsb
  refine own_step (T' := s₁) (g' := (mkF m 1 #[.val (.ref a1), .val (.int p1), .unset] [(.ref a1)])) (fun _ kk => XS.aloadN X0.here hx rfl (hb hby den_0) rfl rfl kk) ?_
  obtain ⟨T125, X125, e125, st125⟩ := getF X0 hx hZ hown (host := "") (Or.inl (w38 hw)) Via.refl e0 FV124 (g := (mkF m 1 #[.val (.ref a1), .val (.int p1), .unset] [(.ref a1)])) rfl rfl (hb hby den_1)
  refine own_step (T' := T125) (g' := (mkF m 4 #[.val (.ref a1), .val (.int p1), .unset] [(.ref b)])) (fun _ kk => st125 _ kk) ?_
  refine own_step (T' := T125) (g' := (mkF m 5 #[.val (.ref a1), .val (.int p1), .unset] [(.int (16 : Int32))])) (fun _ kk => own_alen X125 hx hZ e125 AB124 (g := (mkF m 4 #[.val (.ref a1), .val (.int p1), .unset] [(.ref b)])) rfl rfl (hb hby den_4) _ kk) ?_
  refine own_step (T' := T125) (g' := (mkF m 6 #[.val (.ref a1), .val (.int p1), .unset] [(.ref a1), (.int (16 : Int32))])) (fun _ kk => XS.aloadN X125.here hx rfl (hb hby den_5) rfl rfl kk) ?_
  obtain ⟨T126, X126, e126, st126⟩ := getF X125 hx hZ hown (host := "") (Or.inl (w40 hw)) Via.refl e125 FC124 (g := (mkF m 6 #[.val (.ref a1), .val (.int p1), .unset] [(.ref a1), (.int (16 : Int32))])) rfl rfl (hb hby den_6)
  refine own_step (T' := T126) (g' := (mkF m 9 #[.val (.ref a1), .val (.int p1), .unset] [(.int (0 : Int32)), (.int (16 : Int32))])) (fun _ kk => st126 _ kk) ?_
  refine own_step (T' := T126) (g' := (mkF m 10 #[.val (.ref a1), .val (.int p1), .unset] [(.int ((16 : Int32) >>> ((0 : Int32) &&& 31)))])) (fun _ kk => XS.ishr X126.here hx rfl (hb hby den_9) rfl kk) ?_
  refine own_step (T' := T126) (g' := (mkF m 11 #[.val (.ref a1), .val (.int p1), .val (.int ((16 : Int32) >>> ((0 : Int32) &&& 31)))] [])) (fun _ kk => XS.istoreN X126.here hx rfl (hb hby den_10) rfl (l' := #[.val (.ref a1), .val (.int p1), .val (.int ((16 : Int32) >>> ((0 : Int32) &&& 31)))]) rfl kk) ?_
  refine own_step (T' := T126) (g' := (mkF m 12 #[.val (.ref a1), .val (.int p1), .val (.int ((16 : Int32) >>> ((0 : Int32) &&& 31)))] [(.int p1)])) (fun _ kk => XS.iloadN X126.here hx rfl (hb hby den_11) rfl kk) ?_
  refine own_step (T' := T126) (g' := (mkF m 13 #[.val (.ref a1), .val (.int p1), .val (.int ((16 : Int32) >>> ((0 : Int32) &&& 31)))] [(.int ((16 : Int32) >>> ((0 : Int32) &&& 31))), (.int p1)])) (fun _ kk => XS.iloadN X126.here hx rfl (hb hby den_12) rfl kk) ?_
  refine own_step (T' := T126) (g' := (mkF m 14 #[.val (.ref a1), .val (.int p1), .val (.int ((16 : Int32) >>> ((0 : Int32) &&& 31)))] [(.int (p1 - ((16 : Int32) >>> ((0 : Int32) &&& 31))))])) (fun _ kk => XS.isub X126.here hx rfl (hb hby den_13) rfl kk) ?_
  refine own_step (T' := T126) (g' := (mkF m 38 #[.val (.ref a1), .val (.int p1), .val (.int ((16 : Int32) >>> ((0 : Int32) &&& 31)))] [])) (fun _ kk => XS.ifYes X126.here hx rfl (pc0 := 14) (pc' := 38) rfl (hb hby den_14) rfl ((if0 _ _).trans (flt (own_ens hp.1 hp.2)).2.2.2) (by decide) (by decide) kk) ?_
  exact own_retV X126 hx hlk hret (hb hby den_38) e126 ⟨rfl, F122, rfl⟩ (by decide) (by decide)
theorem dil_0 : decode jdk_68_method_68_code 0 = .ok (.getstatic 18, 3) := by decide +kernel
theorem dil_3 : decode jdk_68_method_68_code 3 = .ok (.ifCond .eq 14, 3) := by decide +kernel
theorem dil_6 : decode jdk_68_method_68_code 6 = .ok (.aload_n 0, 1) := by decide +kernel
theorem dil_7 : decode jdk_68_method_68_code 7 = .ok (.getfield 22, 3) := by decide +kernel
theorem dil_10 : decode jdk_68_method_68_code 10 = .ok (.ifCond .ne 7, 3) := by decide +kernel
theorem dil_13 : decode jdk_68_method_68_code 13 = .ok (.iconst 1, 1) := by decide +kernel
theorem dil_14 : decode jdk_68_method_68_code 14 = .ok (.goto 4, 3) := by decide +kernel
theorem dil_17 : decode jdk_68_method_68_code 17 = .ok (.iconst 0, 1) := by decide +kernel
theorem dil_18 : decode jdk_68_method_68_code 18 = .ok (.ireturn, 1) := by decide +kernel
set_option maxRecDepth 65536 in
set_option maxHeartbeats 40000000 in
theorem rm_il (l : Launch) (Z : State) (a0 : Array Value) (hw : ∀ d ∈ tables_1, d.before a0 Z = true) (a1 b : Addr) (kb : ClassId) (ds : List Int32) (zc : Int32) (h0 : Heap) (O0 : Old Z Z.heap.size h0) (hsb : own_SB Z h0 a1 b kb ds) (SC : Sta Z Z.heap "java/lang/String" "COMPACT_STRINGS" "Z" (.int zc)) (hzc : ¬ zc = (0 : Int32)) :
    own_Con l Z (⟨"java/lang/AbstractStringBuilder", "isLatin1", "()Z"⟩ : MethodName) jdk_68_method_68_code 1 (some .boolean) ({ frames := 0, cells := 0, slots := 0, locals := 0 } : Room) #[(.ref a1)] h0 (fun v h L => v = some (.int (1 : Int32)) ∧ Fr Z.heap.size L ∧ h = h0) := by
  refine own_con (ls := #[.val (.ref a1)]) (plainFor_of_name pn_java_lang_AbstractStringBuilder) (fun m => by first | (simp [entryFrame, mkF, argsToLocals, Value.category]; done) | rfl) ?_
  intro p e s m below meth c s₁ hx hby hml0 hown0 hnm0 hret0 hlk hZ X0 e0
  have hml : c.maxLocals = 1 := hml0
  have hown : s.vm.findClass "java/lang/AbstractStringBuilder" = some m.cls := hown0
  have hnm : meth.name = "isLatin1" := hnm0
  have hret : meth.sig.returnType = (some .boolean) := hret0
  have F127 := Fr.nil Z.heap.size
  have F128 := Keep.refl h0 []
  obtain ⟨OB129, FV129, FC129, FN129, AB129⟩ := id hsb
  obtain ⟨T130, X130, e130, st130⟩ := getS (host := "") X0 hx hZ hown (w35 hw) Via.refl e0 (SC.ext O0.2) (g := (mkF m 0 #[.val (.ref a1)] [])) rfl (hb hby dil_0)
  refine own_step (T' := T130) (g' := (mkF m 3 #[.val (.ref a1)] [(.int zc)])) (fun _ kk => st130 _ kk) ?_
  refine own_step (T' := T130) (g' := (mkF m 6 #[.val (.ref a1)] [])) (fun _ kk => XS.ifNo X130.here hx rfl (hb hby dil_3) rfl ((if0 _ _).trans (feq hzc).1) kk) ?_
  refine own_step (T' := T130) (g' := (mkF m 7 #[.val (.ref a1)] [(.ref a1)])) (fun _ kk => XS.aloadN X130.here hx rfl (hb hby dil_6) rfl rfl kk) ?_
  obtain ⟨T131, X131, e131, st131⟩ := getF X130 hx hZ hown (host := "") (Or.inl (w40 hw)) Via.refl e130 FC129 (g := (mkF m 7 #[.val (.ref a1)] [(.ref a1)])) rfl rfl (hb hby dil_7)
  refine own_step (T' := T131) (g' := (mkF m 10 #[.val (.ref a1)] [(.int (0 : Int32))])) (fun _ kk => st131 _ kk) ?_
  refine own_step (T' := T131) (g' := (mkF m 13 #[.val (.ref a1)] [])) (fun _ kk => XS.ifNo X131.here hx rfl (hb hby dil_10) rfl ((if0 _ _).trans (teq rfl).2) kk) ?_
  refine own_step (T' := T131) (g' := (mkF m 14 #[.val (.ref a1)] [(.int (1 : Int32))])) (fun _ kk => XS.iconst X131.here hx rfl (hb hby dil_13) kk) ?_
  refine own_step (T' := T131) (g' := (mkF m 18 #[.val (.ref a1)] [(.int (1 : Int32))])) (fun _ kk => XS.goto X131.here hx rfl (pc0 := 14) (pc' := 18) rfl (hb hby dil_14) (by decide) (by decide) kk) ?_
  exact own_retN X131 hx hlk (t := .boolean) hret (by simp) (hb hby dil_18) e131 ⟨rfl, F127, rfl⟩ (by decide) (by decide)
theorem dce_0 : decode jdk_43_method_3_code 0 = .ok (.iload_n 0, 1) := by decide +kernel
theorem dce_1 : decode jdk_43_method_3_code 1 = .ok (.sipush 255, 3) := by decide +kernel
theorem dce_4 : decode jdk_43_method_3_code 4 = .ok (.if_icmp .gt 7, 3) := by decide +kernel
theorem dce_7 : decode jdk_43_method_3_code 7 = .ok (.iconst 1, 1) := by decide +kernel
theorem dce_8 : decode jdk_43_method_3_code 8 = .ok (.goto 4, 3) := by decide +kernel
theorem dce_11 : decode jdk_43_method_3_code 11 = .ok (.iconst 0, 1) := by decide +kernel
theorem dce_12 : decode jdk_43_method_3_code 12 = .ok (.ireturn, 1) := by decide +kernel
set_option maxRecDepth 65536 in
set_option maxHeartbeats 40000000 in
theorem rm_ce (l : Launch) (Z : State) (a0 : Array Value) (hw : ∀ d ∈ tables_1, d.before a0 Z = true) (p0 : Int32) (h0 : Heap) (O0 : Old Z Z.heap.size h0) (hc : ¬ (255 : Int32) < p0) :
    own_Con l Z (⟨"java/lang/StringLatin1", "canEncode", "(C)Z"⟩ : MethodName) jdk_43_method_3_code 1 (some .boolean) ({ frames := 0, cells := 0, slots := 0, locals := 0 } : Room) #[(.int p0)] h0 (fun v h L => v = some (.int (1 : Int32)) ∧ Fr Z.heap.size L ∧ h = h0) := by
  refine own_con (ls := #[.val (.int p0)]) (plainFor_of_name pn_java_lang_StringLatin1) (fun m => by first | (simp [entryFrame, mkF, argsToLocals, Value.category]; done) | rfl) ?_
  intro p e s m below meth c s₁ hx hby hml0 hown0 hnm0 hret0 hlk hZ X0 e0
  have hml : c.maxLocals = 1 := hml0
  have hown : s.vm.findClass "java/lang/StringLatin1" = some m.cls := hown0
  have hnm : meth.name = "canEncode" := hnm0
  have hret : meth.sig.returnType = (some .boolean) := hret0
  have F132 := Fr.nil Z.heap.size
  have F133 := Keep.refl h0 []
  refine own_step (T' := s₁) (g' := (mkF m 1 #[.val (.int p0)] [(.int p0)])) (fun _ kk => XS.iloadN X0.here hx rfl (hb hby dce_0) rfl kk) ?_
  refine own_step (T' := s₁) (g' := (mkF m 4 #[.val (.int p0)] [(.int (255 : Int32)), (.int p0)])) (fun _ kk => XS.sipush X0.here hx rfl (hb hby dce_1) kk) ?_
  refine own_step (T' := s₁) (g' := (mkF m 7 #[.val (.int p0)] [])) (fun _ kk => XS.icmpNo X0.here hx rfl (hb hby dce_4) rfl (flt hc).2.2.1 kk) ?_
  refine own_step (T' := s₁) (g' := (mkF m 8 #[.val (.int p0)] [(.int (1 : Int32))])) (fun _ kk => XS.iconst X0.here hx rfl (hb hby dce_7) kk) ?_
  refine own_step (T' := s₁) (g' := (mkF m 12 #[.val (.int p0)] [(.int (1 : Int32))])) (fun _ kk => XS.goto X0.here hx rfl (pc0 := 8) (pc' := 12) rfl (hb hby dce_8) (by decide) (by decide) kk) ?_
  exact own_retN X0 hx hlk (t := .boolean) hret (by simp) (hb hby dce_12) e0 ⟨rfl, F132, rfl⟩ (by decide) (by decide)
theorem dac_0 : decode jdk_68_method_74_code 0 = .ok (.aload_n 0, 1) := by decide +kernel
theorem dac_1 : decode jdk_68_method_74_code 1 = .ok (.getfield 79, 3) := by decide +kernel
theorem dac_4 : decode jdk_68_method_74_code 4 = .ok (.istore 4, 2) := by decide +kernel
theorem dac_6 : decode jdk_68_method_74_code 6 = .ok (.aload_n 0, 1) := by decide +kernel
theorem dac_7 : decode jdk_68_method_74_code 7 = .ok (.invokevirtual 83, 3) := by decide +kernel
theorem dac_10 : decode jdk_68_method_74_code 10 = .ok (.ifCond .eq 97, 3) := by decide +kernel
theorem dac_13 : decode jdk_68_method_74_code 13 = .ok (.aload_n 0, 1) := by decide +kernel
theorem dac_14 : decode jdk_68_method_74_code 14 = .ok (.getfield 15, 3) := by decide +kernel
theorem dac_17 : decode jdk_68_method_74_code 17 = .ok (.astore 5, 2) := by decide +kernel
theorem dac_19 : decode jdk_68_method_74_code 19 = .ok (.iload_n 2, 1) := by decide +kernel
theorem dac_20 : decode jdk_68_method_74_code 20 = .ok (.istore 6, 2) := by decide +kernel
theorem dac_22 : decode jdk_68_method_74_code 22 = .ok (.iload 4, 2) := by decide +kernel
theorem dac_24 : decode jdk_68_method_74_code 24 = .ok (.istore 7, 2) := by decide +kernel
theorem dac_26 : decode jdk_68_method_74_code 26 = .ok (.iload 6, 2) := by decide +kernel
theorem dac_28 : decode jdk_68_method_74_code 28 = .ok (.iload_n 3, 1) := by decide +kernel
theorem dac_29 : decode jdk_68_method_74_code 29 = .ok (.if_icmp .ge 75, 3) := by decide +kernel
theorem dac_32 : decode jdk_68_method_74_code 32 = .ok (.aload_n 1, 1) := by decide +kernel
theorem dac_33 : decode jdk_68_method_74_code 33 = .ok (.iload 6, 2) := by decide +kernel
theorem dac_35 : decode jdk_68_method_74_code 35 = .ok (.caload, 1) := by decide +kernel
theorem dac_36 : decode jdk_68_method_74_code 36 = .ok (.istore 8, 2) := by decide +kernel
theorem dac_38 : decode jdk_68_method_74_code 38 = .ok (.iload 8, 2) := by decide +kernel
theorem dac_40 : decode jdk_68_method_74_code 40 = .ok (.invokestatic 191, 3) := by decide +kernel
theorem dac_43 : decode jdk_68_method_74_code 43 = .ok (.ifCond .eq 17, 3) := by decide +kernel
theorem dac_46 : decode jdk_68_method_74_code 46 = .ok (.aload 5, 2) := by decide +kernel
theorem dac_48 : decode jdk_68_method_74_code 48 = .ok (.iload 7, 2) := by decide +kernel
theorem dac_50 : decode jdk_68_method_74_code 50 = .ok (.iinc 7 1, 3) := by decide +kernel
theorem dac_53 : decode jdk_68_method_74_code 53 = .ok (.iload 8, 2) := by decide +kernel
theorem dac_55 : decode jdk_68_method_74_code 55 = .ok (.i2b, 1) := by decide +kernel
theorem dac_56 : decode jdk_68_method_74_code 56 = .ok (.bastore, 1) := by decide +kernel
theorem dac_57 : decode jdk_68_method_74_code 57 = .ok (.goto 41, 3) := by decide +kernel
theorem dac_60 : decode jdk_68_method_74_code 60 = .ok (.aload_n 0, 1) := by decide +kernel
theorem dac_61 : decode jdk_68_method_74_code 61 = .ok (.iload 7, 2) := by decide +kernel
theorem dac_63 : decode jdk_68_method_74_code 63 = .ok (.dup, 1) := by decide +kernel
theorem dac_64 : decode jdk_68_method_74_code 64 = .ok (.istore 4, 2) := by decide +kernel
theorem dac_66 : decode jdk_68_method_74_code 66 = .ok (.putfield 79, 3) := by decide +kernel
theorem dac_69 : decode jdk_68_method_74_code 69 = .ok (.aload_n 0, 1) := by decide +kernel
theorem dac_70 : decode jdk_68_method_74_code 70 = .ok (.invokevirtual 195, 3) := by decide +kernel
theorem dac_73 : decode jdk_68_method_74_code 73 = .ok (.aload_n 0, 1) := by decide +kernel
theorem dac_74 : decode jdk_68_method_74_code 74 = .ok (.getfield 15, 3) := by decide +kernel
theorem dac_77 : decode jdk_68_method_74_code 77 = .ok (.iload 7, 2) := by decide +kernel
theorem dac_79 : decode jdk_68_method_74_code 79 = .ok (.aload_n 1, 1) := by decide +kernel
theorem dac_80 : decode jdk_68_method_74_code 80 = .ok (.iload 6, 2) := by decide +kernel
theorem dac_82 : decode jdk_68_method_74_code 82 = .ok (.iload_n 3, 1) := by decide +kernel
theorem dac_83 : decode jdk_68_method_74_code 83 = .ok (.invokestatic 386, 3) := by decide +kernel
theorem dac_86 : decode jdk_68_method_74_code 86 = .ok (.aload_n 0, 1) := by decide +kernel
theorem dac_87 : decode jdk_68_method_74_code 87 = .ok (.iload 4, 2) := by decide +kernel
theorem dac_89 : decode jdk_68_method_74_code 89 = .ok (.iload_n 3, 1) := by decide +kernel
theorem dac_90 : decode jdk_68_method_74_code 90 = .ok (.iadd, 1) := by decide +kernel
theorem dac_91 : decode jdk_68_method_74_code 91 = .ok (.iload 6, 2) := by decide +kernel
theorem dac_93 : decode jdk_68_method_74_code 93 = .ok (.isub, 1) := by decide +kernel
theorem dac_94 : decode jdk_68_method_74_code 94 = .ok (.putfield 79, 3) := by decide +kernel
theorem dac_97 : decode jdk_68_method_74_code 97 = .ok (.return_, 1) := by decide +kernel
theorem dac_98 : decode jdk_68_method_74_code 98 = .ok (.iinc 6 1, 3) := by decide +kernel
theorem dac_101 : decode jdk_68_method_74_code 101 = .ok (.goto (-75), 3) := by decide +kernel
theorem dac_104 : decode jdk_68_method_74_code 104 = .ok (.goto 15, 3) := by decide +kernel
theorem dac_107 : decode jdk_68_method_74_code 107 = .ok (.aload_n 0, 1) := by decide +kernel
theorem dac_108 : decode jdk_68_method_74_code 108 = .ok (.getfield 15, 3) := by decide +kernel
theorem dac_111 : decode jdk_68_method_74_code 111 = .ok (.iload 4, 2) := by decide +kernel
theorem dac_113 : decode jdk_68_method_74_code 113 = .ok (.aload_n 1, 1) := by decide +kernel
theorem dac_114 : decode jdk_68_method_74_code 114 = .ok (.iload_n 2, 1) := by decide +kernel
theorem dac_115 : decode jdk_68_method_74_code 115 = .ok (.iload_n 3, 1) := by decide +kernel
theorem dac_116 : decode jdk_68_method_74_code 116 = .ok (.invokestatic 386, 3) := by decide +kernel
theorem dac_119 : decode jdk_68_method_74_code 119 = .ok (.aload_n 0, 1) := by decide +kernel
theorem dac_120 : decode jdk_68_method_74_code 120 = .ok (.iload 4, 2) := by decide +kernel
theorem dac_122 : decode jdk_68_method_74_code 122 = .ok (.iload_n 3, 1) := by decide +kernel
theorem dac_123 : decode jdk_68_method_74_code 123 = .ok (.iadd, 1) := by decide +kernel
theorem dac_124 : decode jdk_68_method_74_code 124 = .ok (.iload_n 2, 1) := by decide +kernel
theorem dac_125 : decode jdk_68_method_74_code 125 = .ok (.isub, 1) := by decide +kernel
theorem dac_126 : decode jdk_68_method_74_code 126 = .ok (.putfield 79, 3) := by decide +kernel
theorem dac_129 : decode jdk_68_method_74_code 129 = .ok (.return_, 1) := by decide +kernel
set_option maxRecDepth 65536 in
set_option maxHeartbeats 40000000 in
theorem rm_ac (l : Launch) (Z : State) (a0 : Array Value) (hw : ∀ d ∈ tables_1, d.before a0 Z = true) (a1 b b1 : Addr) (kb kc : ClassId) (cs ds : List Int32) (o e1 : Nat) (zc : Int32) (h0 : Heap) (O0 : Old Z Z.heap.size h0) (hsb : own_SB Z h0 a1 b kb ds) (hA : Arv Z h0 b1 kc .char (Int32.ofNat cs.length) (cs.map Value.int) (.int 0)) (hB : own_B cs) (hl : cs.length ≤ 4000) (g1 : Z.heap.size ≤ a1) (g2 : Z.heap.size ≤ b) (n1 : a1 ≠ b) (n2 : b1 ≠ a1) (n3 : b1 ≠ b) (ho : o ≤ e1) (he : e1 ≤ cs.length) (hd : ds.length + (e1 - o) ≤ 16) (SC : Sta Z Z.heap "java/lang/String" "COMPACT_STRINGS" "Z" (.int zc)) (hzc : ¬ zc = (0 : Int32)) :
    own_Con l Z (⟨"java/lang/AbstractStringBuilder", "appendChars", "([CII)V"⟩ : MethodName) jdk_68_method_74_code 9 none ({ frames := 2, cells := 0, slots := 0, locals := 60 } : Room) #[(.ref a1), (.ref b1), (.int (Int32.ofNat o)), (.int (Int32.ofNat e1))] h0 (fun v h L => v = none ∧ Fr Z.heap.size L ∧ Keep h0 h [a1, b] ∧ own_SB Z h a1 b kb (ds ++ (cs.drop o).take (e1 - o))) := by
  refine own_con (ls := #[.val (.ref a1), .val (.ref b1), .val (.int (Int32.ofNat o)), .val (.int (Int32.ofNat e1)), .unset, .unset, .unset, .unset, .unset]) (plainFor_of_name pn_java_lang_AbstractStringBuilder) (fun m => by first | (simp [entryFrame, mkF, argsToLocals, Value.category]; done) | rfl) ?_
  intro p e s m below meth c s₁ hx hby hml0 hown0 hnm0 hret0 hlk hZ X0 e0
  have hml : c.maxLocals = 9 := hml0
  have hown : s.vm.findClass "java/lang/AbstractStringBuilder" = some m.cls := hown0
  have hnm : meth.name = "appendChars" := hnm0
  have hret : meth.sig.returnType = none := hret0
  have F134 := Fr.nil Z.heap.size
  have F135 := Keep.refl h0 []
  obtain ⟨OB136, FV136, FC136, FN136, AB136⟩ := id hsb
  refine own_step (T' := s₁) (g' := (mkF m 1 #[.val (.ref a1), .val (.ref b1), .val (.int (Int32.ofNat o)), .val (.int (Int32.ofNat e1)), .unset, .unset, .unset, .unset, .unset] [(.ref a1)])) (fun _ kk => XS.aloadN X0.here hx rfl (hb hby dac_0) rfl rfl kk) ?_
  obtain ⟨T137, X137, e137, st137⟩ := getF X0 hx hZ hown (host := "") (Or.inl (w65 hw)) Via.refl e0 FN136 (g := (mkF m 1 #[.val (.ref a1), .val (.ref b1), .val (.int (Int32.ofNat o)), .val (.int (Int32.ofNat e1)), .unset, .unset, .unset, .unset, .unset] [(.ref a1)])) rfl rfl (hb hby dac_1)
  refine own_step (T' := T137) (g' := (mkF m 4 #[.val (.ref a1), .val (.ref b1), .val (.int (Int32.ofNat o)), .val (.int (Int32.ofNat e1)), .unset, .unset, .unset, .unset, .unset] [(.int (Int32.ofNat ds.length))])) (fun _ kk => st137 _ kk) ?_
  refine own_step (T' := T137) (g' := (mkF m 6 #[.val (.ref a1), .val (.ref b1), .val (.int (Int32.ofNat o)), .val (.int (Int32.ofNat e1)), .val (.int (Int32.ofNat ds.length)), .unset, .unset, .unset, .unset] [])) (fun _ kk => XS.istore X137.here hx rfl (hb hby dac_4) rfl (l' := #[.val (.ref a1), .val (.ref b1), .val (.int (Int32.ofNat o)), .val (.int (Int32.ofNat e1)), .val (.int (Int32.ofNat ds.length)), .unset, .unset, .unset, .unset]) rfl kk) ?_
  refine own_step (T' := T137) (g' := (mkF m 7 #[.val (.ref a1), .val (.ref b1), .val (.int (Int32.ofNat o)), .val (.int (Int32.ofNat e1)), .val (.int (Int32.ofNat ds.length)), .unset, .unset, .unset, .unset] [(.ref a1)])) (fun _ kk => XS.aloadN X137.here hx rfl (hb hby dac_6) rfl rfl kk) ?_
  obtain ⟨T139, L139, _, h139, X139, e139, ⟨rfl, Nq138, eh138⟩, st139⟩ := own_callV X137 hx hZ hown (w92 hw) (w93 hw) (w95 hw) (w94 hw) (w96 hw) (w32 hw) (by decide) OB136.1 (g := (mkF m 7 #[.val (.ref a1), .val (.ref b1), .val (.int (Int32.ofNat o)), .val (.int (Int32.ofNat e1)), .val (.int (Int32.ofNat ds.length)), .unset, .unset, .unset, .unset] [(.ref a1)])) rfl (by rw [hml]; rfl) (argsL := []) (rest := []) (rm_il l Z a0 hw a1 b kb ds zc _ O0 hsb SC hzc) e137 pd___Z rfl rfl (W := 0) (by show 2 * 0 + _ ≤ _; first | exact Nat.le_of_eq rfl | simp [own_cref own_of_ref]) (hb hby dac_7) (by decide) (by decide) (by decide) (by decide)
  have F140 := Fr.app F134 Nq138
  have F141 := e139.trans eh138
  refine own_step (T' := T139) (g' := (mkF m 10 #[.val (.ref a1), .val (.ref b1), .val (.int (Int32.ofNat o)), .val (.int (Int32.ofNat e1)), .val (.int (Int32.ofNat ds.length)), .unset, .unset, .unset, .unset] [(.int (1 : Int32))])) (fun _ kk => st139 _ kk) ?_
  refine own_step (T' := T139) (g' := (mkF m 13 #[.val (.ref a1), .val (.ref b1), .val (.int (Int32.ofNat o)), .val (.int (Int32.ofNat e1)), .val (.int (Int32.ofNat ds.length)), .unset, .unset, .unset, .unset] [])) (fun _ kk => XS.ifNo X139.here hx rfl (hb hby dac_10) rfl ((if0 _ _).trans (feq (by decide)).1) kk) ?_
  refine own_step (T' := T139) (g' := (mkF m 14 #[.val (.ref a1), .val (.ref b1), .val (.int (Int32.ofNat o)), .val (.int (Int32.ofNat e1)), .val (.int (Int32.ofNat ds.length)), .unset, .unset, .unset, .unset] [(.ref a1)])) (fun _ kk => XS.aloadN X139.here hx rfl (hb hby dac_13) rfl rfl kk) ?_
  obtain ⟨T142, X142, e142, st142⟩ := getF X139 hx hZ hown (host := "") (Or.inl (w38 hw)) Via.refl F141 FV136 (g := (mkF m 14 #[.val (.ref a1), .val (.ref b1), .val (.int (Int32.ofNat o)), .val (.int (Int32.ofNat e1)), .val (.int (Int32.ofNat ds.length)), .unset, .unset, .unset, .unset] [(.ref a1)])) rfl rfl (hb hby dac_14)
  refine own_step (T' := T142) (g' := (mkF m 17 #[.val (.ref a1), .val (.ref b1), .val (.int (Int32.ofNat o)), .val (.int (Int32.ofNat e1)), .val (.int (Int32.ofNat ds.length)), .unset, .unset, .unset, .unset] [(.ref b)])) (fun _ kk => st142 _ kk) ?_
  refine own_step (T' := T142) (g' := (mkF m 19 #[.val (.ref a1), .val (.ref b1), .val (.int (Int32.ofNat o)), .val (.int (Int32.ofNat e1)), .val (.int (Int32.ofNat ds.length)), .val (.ref b), .unset, .unset, .unset] [])) (fun _ kk => XS.astore X142.here hx rfl (hb hby dac_17) rfl rfl (l' := #[.val (.ref a1), .val (.ref b1), .val (.int (Int32.ofNat o)), .val (.int (Int32.ofNat e1)), .val (.int (Int32.ofNat ds.length)), .val (.ref b), .unset, .unset, .unset]) rfl kk) ?_
  refine own_step (T' := T142) (g' := (mkF m 20 #[.val (.ref a1), .val (.ref b1), .val (.int (Int32.ofNat o)), .val (.int (Int32.ofNat e1)), .val (.int (Int32.ofNat ds.length)), .val (.ref b), .unset, .unset, .unset] [(.int (Int32.ofNat o))])) (fun _ kk => XS.iloadN X142.here hx rfl (hb hby dac_19) rfl kk) ?_
  refine own_step (T' := T142) (g' := (mkF m 22 #[.val (.ref a1), .val (.ref b1), .val (.int (Int32.ofNat o)), .val (.int (Int32.ofNat e1)), .val (.int (Int32.ofNat ds.length)), .val (.ref b), .val (.int (Int32.ofNat o)), .unset, .unset] [])) (fun _ kk => XS.istore X142.here hx rfl (hb hby dac_20) rfl (l' := #[.val (.ref a1), .val (.ref b1), .val (.int (Int32.ofNat o)), .val (.int (Int32.ofNat e1)), .val (.int (Int32.ofNat ds.length)), .val (.ref b), .val (.int (Int32.ofNat o)), .unset, .unset]) rfl kk) ?_
  refine own_step (T' := T142) (g' := (mkF m 24 #[.val (.ref a1), .val (.ref b1), .val (.int (Int32.ofNat o)), .val (.int (Int32.ofNat e1)), .val (.int (Int32.ofNat ds.length)), .val (.ref b), .val (.int (Int32.ofNat o)), .unset, .unset] [(.int (Int32.ofNat ds.length))])) (fun _ kk => XS.iload X142.here hx rfl (hb hby dac_22) rfl kk) ?_
  refine own_step (T' := T142) (g' := (mkF m 26 #[.val (.ref a1), .val (.ref b1), .val (.int (Int32.ofNat o)), .val (.int (Int32.ofNat e1)), .val (.int (Int32.ofNat ds.length)), .val (.ref b), .val (.int (Int32.ofNat o)), .val (.int (Int32.ofNat ds.length)), .unset] [])) (fun _ kk => XS.istore X142.here hx rfl (hb hby dac_24) rfl (l' := #[.val (.ref a1), .val (.ref b1), .val (.int (Int32.ofNat o)), .val (.int (Int32.ofNat e1)), .val (.int (Int32.ofNat ds.length)), .val (.ref b), .val (.int (Int32.ofNat o)), .val (.int (Int32.ofNat ds.length)), .unset]) rfl kk) ?_
  have lp : ∀ (k i : Nat) (z8 : Slot) (T : State) (locs : List Loc) (h : Heap), i + k = e1 → o ≤ i → (z8 = .unset ∨ ∃ w, z8 = .val w ∧ w.category = 1) → Stand p l e ({ frames := 2, cells := 0, slots := 0, locals := 60 } : Room) s m #[.ref a1, .ref b1, .int (Int32.ofNat o), .int (Int32.ofNat e1)] below meth c T locs 0 0 → T.heap = h → Fr Z.heap.size locs → Keep h0 h [a1, b] → Old Z Z.heap.size h → own_Obj Z h a1 "java/lang/StringBuilder" → Fld Z h a1 "java/lang/AbstractStringBuilder" "value" "[B" (.ref b) → Fld Z h a1 "java/lang/AbstractStringBuilder" "coder" "B" (.int 0) → Fld Z h a1 "java/lang/AbstractStringBuilder" "count" "I" (.int (Int32.ofNat ds.length)) → Arv Z h b kb .byte (16 : Int32) (((ds ++ (cs.drop o).take (i - o)).map own_l8).map Value.int) (.int 0) → Arv Z h b1 kc .char (Int32.ofNat cs.length) (cs.map Value.int) (.int 0) → own_Fin p e below (own_PostN s ({ frames := 2, cells := 0, slots := 0, locals := 60 } : Room) (fun v h L => v = none ∧ Fr Z.heap.size L ∧ Keep h0 h [a1, b] ∧ own_SB Z h a1 b kb (ds ++ (cs.drop o).take (e1 - o)))) T (mkF m 26 #[.val (.ref a1), .val (.ref b1), .val (.int (Int32.ofNat o)), .val (.int (Int32.ofNat e1)), .val (.int (Int32.ofNat ds.length)), .val (.ref b), .val (.int (Int32.ofNat i)), .val (.int (Int32.ofNat (ds.length + (i - o)))), z8] []) := by
    intro k
    induction k with
    | zero =>
      intro i z8 T locs h hik hoi hz8 X1 q1 N1 K1 O1 OB1 FV1 FC1 FN1 AB1 A1
      refine own_step (T' := T) (g' := (mkF m 28 #[.val (.ref a1), .val (.ref b1), .val (.int (Int32.ofNat o)), .val (.int (Int32.ofNat e1)), .val (.int (Int32.ofNat ds.length)), .val (.ref b), .val (.int (Int32.ofNat i)), .val (.int (Int32.ofNat (ds.length + (i - o)))), z8] [(.int (Int32.ofNat i))])) (fun _ kk => XS.iload X1.here hx rfl (hb hby dac_26) rfl kk) ?_
      refine own_step (T' := T) (g' := (mkF m 29 #[.val (.ref a1), .val (.ref b1), .val (.int (Int32.ofNat o)), .val (.int (Int32.ofNat e1)), .val (.int (Int32.ofNat ds.length)), .val (.ref b), .val (.int (Int32.ofNat i)), .val (.int (Int32.ofNat (ds.length + (i - o)))), z8] [(.int (Int32.ofNat e1)), (.int (Int32.ofNat i))])) (fun _ kk => XS.iloadN X1.here hx rfl (hb hby dac_28) rfl kk) ?_
      refine own_step (T' := T) (g' := (mkF m 104 #[.val (.ref a1), .val (.ref b1), .val (.int (Int32.ofNat o)), .val (.int (Int32.ofNat e1)), .val (.int (Int32.ofNat ds.length)), .val (.ref b), .val (.int (Int32.ofNat i)), .val (.int (Int32.ofNat (ds.length + (i - o)))), z8] [])) (fun _ kk => XS.icmpYes X1.here hx rfl (pc0 := 29) (pc' := 104) rfl (hb hby dac_29) rfl (flt (own_nltn (by omega) (by omega))).2.1 (by decide) (by decide) kk) ?_
      refine own_step (T' := T) (g' := (mkF m 119 #[.val (.ref a1), .val (.ref b1), .val (.int (Int32.ofNat o)), .val (.int (Int32.ofNat e1)), .val (.int (Int32.ofNat ds.length)), .val (.ref b), .val (.int (Int32.ofNat i)), .val (.int (Int32.ofNat (ds.length + (i - o)))), z8] [])) (fun _ kk => XS.goto X1.here hx rfl (pc0 := 104) (pc' := 119) rfl (hb hby dac_104) (by decide) (by decide) kk) ?_
      refine own_step (T' := T) (g' := (mkF m 120 #[.val (.ref a1), .val (.ref b1), .val (.int (Int32.ofNat o)), .val (.int (Int32.ofNat e1)), .val (.int (Int32.ofNat ds.length)), .val (.ref b), .val (.int (Int32.ofNat i)), .val (.int (Int32.ofNat (ds.length + (i - o)))), z8] [(.ref a1)])) (fun _ kk => XS.aloadN X1.here hx rfl (hb hby dac_119) rfl rfl kk) ?_
      refine own_step (T' := T) (g' := (mkF m 122 #[.val (.ref a1), .val (.ref b1), .val (.int (Int32.ofNat o)), .val (.int (Int32.ofNat e1)), .val (.int (Int32.ofNat ds.length)), .val (.ref b), .val (.int (Int32.ofNat i)), .val (.int (Int32.ofNat (ds.length + (i - o)))), z8] [(.int (Int32.ofNat ds.length)), (.ref a1)])) (fun _ kk => XS.iload X1.here hx rfl (hb hby dac_120) rfl kk) ?_
      refine own_step (T' := T) (g' := (mkF m 123 #[.val (.ref a1), .val (.ref b1), .val (.int (Int32.ofNat o)), .val (.int (Int32.ofNat e1)), .val (.int (Int32.ofNat ds.length)), .val (.ref b), .val (.int (Int32.ofNat i)), .val (.int (Int32.ofNat (ds.length + (i - o)))), z8] [(.int (Int32.ofNat e1)), (.int (Int32.ofNat ds.length)), (.ref a1)])) (fun _ kk => XS.iloadN X1.here hx rfl (hb hby dac_122) rfl kk) ?_
      refine own_step (T' := T) (g' := (mkF m 124 #[.val (.ref a1), .val (.ref b1), .val (.int (Int32.ofNat o)), .val (.int (Int32.ofNat e1)), .val (.int (Int32.ofNat ds.length)), .val (.ref b), .val (.int (Int32.ofNat i)), .val (.int (Int32.ofNat (ds.length + (i - o)))), z8] [(.int ((Int32.ofNat ds.length) + (Int32.ofNat e1))), (.ref a1)])) (fun _ kk => XS.iadd X1.here hx rfl (hb hby dac_123) rfl kk) ?_
      refine own_step (T' := T) (g' := (mkF m 125 #[.val (.ref a1), .val (.ref b1), .val (.int (Int32.ofNat o)), .val (.int (Int32.ofNat e1)), .val (.int (Int32.ofNat ds.length)), .val (.ref b), .val (.int (Int32.ofNat i)), .val (.int (Int32.ofNat (ds.length + (i - o)))), z8] [(.int (Int32.ofNat o)), (.int ((Int32.ofNat ds.length) + (Int32.ofNat e1))), (.ref a1)])) (fun _ kk => XS.iloadN X1.here hx rfl (hb hby dac_124) rfl kk) ?_
      refine own_step (T' := T) (g' := (mkF m 126 #[.val (.ref a1), .val (.ref b1), .val (.int (Int32.ofNat o)), .val (.int (Int32.ofNat e1)), .val (.int (Int32.ofNat ds.length)), .val (.ref b), .val (.int (Int32.ofNat i)), .val (.int (Int32.ofNat (ds.length + (i - o)))), z8] [(.int (((Int32.ofNat ds.length) + (Int32.ofNat e1)) - (Int32.ofNat o))), (.ref a1)])) (fun _ kk => XS.isub X1.here hx rfl (hb hby dac_125) rfl kk) ?_
      obtain ⟨u143, Fu143⟩ := OB1.fld (w23 hw) (Or.inl (w66 hw) : Laid Z a0 "java/lang/StringBuilder" "java/lang/AbstractStringBuilder" "count" "I")
      obtain ⟨T143, h143, X143, e143, W143, st143⟩ := putF X1 hx hZ hown (host := "") (Or.inl (w65 hw)) Via.refl q1 Fu143 OB1.1 (Or.inl (w66 hw)) (w23 hw) (ty := .int) (by decide) rfl rfl (g := (mkF m 126 #[.val (.ref a1), .val (.ref b1), .val (.int (Int32.ofNat o)), .val (.int (Int32.ofNat e1)), .val (.int (Int32.ofNat ds.length)), .val (.ref b), .val (.int (Int32.ofNat i)), .val (.int (Int32.ofNat (ds.length + (i - o)))), z8] [(.int (((Int32.ofNat ds.length) + (Int32.ofNat e1)) - (Int32.ofNat o))), (.ref a1)])) rfl rfl (hb hby dac_126)
      have F144 := Fr.snoc X143 N1 g1
      have F145 := OB1.wr W143
      have F146 := FV1.other W143 (Or.inr (slot_ne (Or.inl (w39 hw) : Laid Z a0 "java/lang/StringBuilder" "java/lang/AbstractStringBuilder" "value" "[B") (Or.inl (w66 hw) : Laid Z a0 "java/lang/StringBuilder" "java/lang/AbstractStringBuilder" "count" "I") (by decide) (t := (.array .byte)) (t' := .int) (by decide) (by decide)))
      have F147 := FC1.other W143 (Or.inr (slot_ne (Or.inl (w41 hw) : Laid Z a0 "java/lang/StringBuilder" "java/lang/AbstractStringBuilder" "coder" "B") (Or.inl (w66 hw) : Laid Z a0 "java/lang/StringBuilder" "java/lang/AbstractStringBuilder" "count" "I") (by decide) (t := .byte) (t' := .int) (by decide) (by decide)))
      have F148 := AB1.other W143 (Ne.symm n1)
      have F149 := A1.other W143 n2
      have F150 := O1.wr W143 g1
      have F151 := K1.wr W143 (Or.inl (List.mem_of_getElem? (i := 0) rfl))
      have F152 : Fld Z h143 a1 "java/lang/AbstractStringBuilder" "count" "I" (.int (((Int32.ofNat ds.length) + (Int32.ofNat e1)) - (Int32.ofNat o))) := Fu143.same W143
      refine own_step (T' := T143) (g' := (mkF m 129 #[.val (.ref a1), .val (.ref b1), .val (.int (Int32.ofNat o)), .val (.int (Int32.ofNat e1)), .val (.int (Int32.ofNat ds.length)), .val (.ref b), .val (.int (Int32.ofNat i)), .val (.int (Int32.ofNat (ds.length + (i - o)))), z8] [])) (fun _ kk => st143 _ kk) ?_
      obtain rfl : i = e1 := by omega
      rw [own_addn, own_subn (by omega)] at F152
      have ec : (ds ++ (cs.drop o).take (i - o)).length = ds.length + i - o := by rw [List.length_append, own_takeL (by omega)]; omega
      rw [← ec] at F152
      exact own_retV X143 hx hlk hret (hb hby dac_129) e143 ⟨rfl, F144, F151, ⟨F145, F146, F147, F152, F148⟩⟩ (by decide) (by decide)
    | succ k ih =>
      intro i z8 T locs h hik hoi hz8 X1 q1 N1 K1 O1 OB1 FV1 FC1 FN1 AB1 A1
      refine own_step (T' := T) (g' := (mkF m 28 #[.val (.ref a1), .val (.ref b1), .val (.int (Int32.ofNat o)), .val (.int (Int32.ofNat e1)), .val (.int (Int32.ofNat ds.length)), .val (.ref b), .val (.int (Int32.ofNat i)), .val (.int (Int32.ofNat (ds.length + (i - o)))), z8] [(.int (Int32.ofNat i))])) (fun _ kk => XS.iload X1.here hx rfl (hb hby dac_26) rfl kk) ?_
      refine own_step (T' := T) (g' := (mkF m 29 #[.val (.ref a1), .val (.ref b1), .val (.int (Int32.ofNat o)), .val (.int (Int32.ofNat e1)), .val (.int (Int32.ofNat ds.length)), .val (.ref b), .val (.int (Int32.ofNat i)), .val (.int (Int32.ofNat (ds.length + (i - o)))), z8] [(.int (Int32.ofNat e1)), (.int (Int32.ofNat i))])) (fun _ kk => XS.iloadN X1.here hx rfl (hb hby dac_28) rfl kk) ?_
      refine own_step (T' := T) (g' := (mkF m 32 #[.val (.ref a1), .val (.ref b1), .val (.int (Int32.ofNat o)), .val (.int (Int32.ofNat e1)), .val (.int (Int32.ofNat ds.length)), .val (.ref b), .val (.int (Int32.ofNat i)), .val (.int (Int32.ofNat (ds.length + (i - o)))), z8] [])) (fun _ kk => XS.icmpNo X1.here hx rfl (hb hby dac_29) rfl (tlt (own_ltn (by omega) (by omega))).2.1 kk) ?_
      refine own_step (T' := T) (g' := (mkF m 33 #[.val (.ref a1), .val (.ref b1), .val (.int (Int32.ofNat o)), .val (.int (Int32.ofNat e1)), .val (.int (Int32.ofNat ds.length)), .val (.ref b), .val (.int (Int32.ofNat i)), .val (.int (Int32.ofNat (ds.length + (i - o)))), z8] [(.ref b1)])) (fun _ kk => XS.aloadN X1.here hx rfl (hb hby dac_32) rfl rfl kk) ?_
      refine own_step (T' := T) (g' := (mkF m 35 #[.val (.ref a1), .val (.ref b1), .val (.int (Int32.ofNat o)), .val (.int (Int32.ofNat e1)), .val (.int (Int32.ofNat ds.length)), .val (.ref b), .val (.int (Int32.ofNat i)), .val (.int (Int32.ofNat (ds.length + (i - o)))), z8] [(.int (Int32.ofNat i)), (.ref b1)])) (fun _ kk => XS.iload X1.here hx rfl (hb hby dac_33) rfl kk) ?_
      refine own_step (T' := T) (g' := (mkF m 36 #[.val (.ref a1), .val (.ref b1), .val (.int (Int32.ofNat o)), .val (.int (Int32.ofNat e1)), .val (.int (Int32.ofNat ds.length)), .val (.ref b), .val (.int (Int32.ofNat i)), .val (.int (Int32.ofNat (ds.length + (i - o)))), z8] [(.int (cs.getD i 0))])) (fun _ kk => own_caload X1 hx hZ q1 A1 ⟨own_nneg (by rw [own_ofn (by omega)]; omega), own_ltn (by omega) (by omega)⟩ (own_charat (by omega)) (g := (mkF m 35 #[.val (.ref a1), .val (.ref b1), .val (.int (Int32.ofNat o)), .val (.int (Int32.ofNat e1)), .val (.int (Int32.ofNat ds.length)), .val (.ref b), .val (.int (Int32.ofNat i)), .val (.int (Int32.ofNat (ds.length + (i - o)))), z8] [(.int (Int32.ofNat i)), (.ref b1)])) rfl rfl (hb hby dac_35) _ kk) ?_
      refine own_step (T' := T) (g' := (mkF m 38 #[.val (.ref a1), .val (.ref b1), .val (.int (Int32.ofNat o)), .val (.int (Int32.ofNat e1)), .val (.int (Int32.ofNat ds.length)), .val (.ref b), .val (.int (Int32.ofNat i)), .val (.int (Int32.ofNat (ds.length + (i - o)))), .val (.int (cs.getD i 0))] [])) (fun _ kk => XS.istore X1.here hx rfl (hb hby dac_36) rfl (l' := #[.val (.ref a1), .val (.ref b1), .val (.int (Int32.ofNat o)), .val (.int (Int32.ofNat e1)), .val (.int (Int32.ofNat ds.length)), .val (.ref b), .val (.int (Int32.ofNat i)), .val (.int (Int32.ofNat (ds.length + (i - o)))), .val (.int (cs.getD i 0))]) (XS.store1 (o := z8) rfl hz8 rfl) kk) ?_
      refine own_step (T' := T) (g' := (mkF m 40 #[.val (.ref a1), .val (.ref b1), .val (.int (Int32.ofNat o)), .val (.int (Int32.ofNat e1)), .val (.int (Int32.ofNat ds.length)), .val (.ref b), .val (.int (Int32.ofNat i)), .val (.int (Int32.ofNat (ds.length + (i - o)))), .val (.int (cs.getD i 0))] [(.int (cs.getD i 0))])) (fun _ kk => XS.iload X1.here hx rfl (hb hby dac_38) rfl kk) ?_
      have hci : ¬ (255 : Int32) < cs.getD i 0 := (own_Bt.at hB (by omega)).2
      obtain ⟨T154, L154, _, h154, X154, e154, ⟨rfl, Nq153, eh153⟩, st154⟩ := own_callS X1 hx hZ hown (w200 hw) (w201 hw) (w203 hw) (w202 hw) (by decide) (g := (mkF m 40 #[.val (.ref a1), .val (.ref b1), .val (.int (Int32.ofNat o)), .val (.int (Int32.ofNat e1)), .val (.int (Int32.ofNat ds.length)), .val (.ref b), .val (.int (Int32.ofNat i)), .val (.int (Int32.ofNat (ds.length + (i - o)))), .val (.int (cs.getD i 0))] [(.int (cs.getD i 0))])) rfl (by rw [hml]; rfl) (argsL := [(.int (cs.getD i 0))]) (rest := []) (rm_ce l Z a0 hw (cs.getD i 0) _ O1 hci) q1 pd__C_Z rfl rfl (W := 0) (by show 2 * 0 + _ ≤ _; first | exact Nat.le_of_eq rfl | simp [own_cref own_of_ref]) (hb hby dac_40) (by decide) (by decide) (by decide) (by decide)
      have F155 := Fr.app N1 Nq153
      have F156 := e154.trans eh153
      refine own_step (T' := T154) (g' := (mkF m 43 #[.val (.ref a1), .val (.ref b1), .val (.int (Int32.ofNat o)), .val (.int (Int32.ofNat e1)), .val (.int (Int32.ofNat ds.length)), .val (.ref b), .val (.int (Int32.ofNat i)), .val (.int (Int32.ofNat (ds.length + (i - o)))), .val (.int (cs.getD i 0))] [(.int (1 : Int32))])) (fun _ kk => st154 _ kk) ?_
      refine own_step (T' := T154) (g' := (mkF m 46 #[.val (.ref a1), .val (.ref b1), .val (.int (Int32.ofNat o)), .val (.int (Int32.ofNat e1)), .val (.int (Int32.ofNat ds.length)), .val (.ref b), .val (.int (Int32.ofNat i)), .val (.int (Int32.ofNat (ds.length + (i - o)))), .val (.int (cs.getD i 0))] [])) (fun _ kk => XS.ifNo X154.here hx rfl (hb hby dac_43) rfl ((if0 _ _).trans (feq (by decide)).1) kk) ?_
      refine own_step (T' := T154) (g' := (mkF m 48 #[.val (.ref a1), .val (.ref b1), .val (.int (Int32.ofNat o)), .val (.int (Int32.ofNat e1)), .val (.int (Int32.ofNat ds.length)), .val (.ref b), .val (.int (Int32.ofNat i)), .val (.int (Int32.ofNat (ds.length + (i - o)))), .val (.int (cs.getD i 0))] [(.ref b)])) (fun _ kk => XS.aload X154.here hx rfl (hb hby dac_46) rfl rfl kk) ?_
      refine own_step (T' := T154) (g' := (mkF m 50 #[.val (.ref a1), .val (.ref b1), .val (.int (Int32.ofNat o)), .val (.int (Int32.ofNat e1)), .val (.int (Int32.ofNat ds.length)), .val (.ref b), .val (.int (Int32.ofNat i)), .val (.int (Int32.ofNat (ds.length + (i - o)))), .val (.int (cs.getD i 0))] [(.int (Int32.ofNat (ds.length + (i - o)))), (.ref b)])) (fun _ kk => XS.iload X154.here hx rfl (hb hby dac_48) rfl kk) ?_
      refine own_step (T' := T154) (g' := (mkF m 53 #[.val (.ref a1), .val (.ref b1), .val (.int (Int32.ofNat o)), .val (.int (Int32.ofNat e1)), .val (.int (Int32.ofNat ds.length)), .val (.ref b), .val (.int (Int32.ofNat i)), .val (.int ((Int32.ofNat (ds.length + (i - o))) + (1 : Int32))), .val (.int (cs.getD i 0))] [(.int (Int32.ofNat (ds.length + (i - o)))), (.ref b)])) (fun _ kk => XS.iinc X154.here hx rfl (hb hby dac_50) rfl (l' := #[.val (.ref a1), .val (.ref b1), .val (.int (Int32.ofNat o)), .val (.int (Int32.ofNat e1)), .val (.int (Int32.ofNat ds.length)), .val (.ref b), .val (.int (Int32.ofNat i)), .val (.int ((Int32.ofNat (ds.length + (i - o))) + (1 : Int32))), .val (.int (cs.getD i 0))]) rfl kk) ?_
      refine own_step (T' := T154) (g' := (mkF m 55 #[.val (.ref a1), .val (.ref b1), .val (.int (Int32.ofNat o)), .val (.int (Int32.ofNat e1)), .val (.int (Int32.ofNat ds.length)), .val (.ref b), .val (.int (Int32.ofNat i)), .val (.int ((Int32.ofNat (ds.length + (i - o))) + (1 : Int32))), .val (.int (cs.getD i 0))] [(.int (cs.getD i 0)), (.int (Int32.ofNat (ds.length + (i - o)))), (.ref b)])) (fun _ kk => XS.iload X154.here hx rfl (hb hby dac_53) rfl kk) ?_
      refine own_step (T' := T154) (g' := (mkF m 56 #[.val (.ref a1), .val (.ref b1), .val (.int (Int32.ofNat o)), .val (.int (Int32.ofNat e1)), .val (.int (Int32.ofNat ds.length)), .val (.ref b), .val (.int (Int32.ofNat i)), .val (.int ((Int32.ofNat (ds.length + (i - o))) + (1 : Int32))), .val (.int (cs.getD i 0))] [(.int ((cs.getD i 0).toInt8.toInt32)), (.int (Int32.ofNat (ds.length + (i - o)))), (.ref b)])) (fun _ kk => XS.i2b X154.here hx rfl (hb hby dac_55) rfl kk) ?_
      obtain ⟨Ac157, Ar157, q157, Sz157, Nn157, Hs157, Gs157⟩ := AB1
      obtain ⟨T157, h157, X157, e157, W157, st157⟩ := stB X154 hx hZ F156 Ar157 (j := (Int32.ofNat (ds.length + (i - o)))) (x := ((cs.getD i 0).toInt8.toInt32)) (inb_of Sz157 ⟨own_nneg (by rw [own_ofn (by omega)]; omega), own_lt (by rw [own_ofn (by omega)]; show _ < (16 : Int); omega)⟩) (g := (mkF m 56 #[.val (.ref a1), .val (.ref b1), .val (.int (Int32.ofNat o)), .val (.int (Int32.ofNat e1)), .val (.int (Int32.ofNat ds.length)), .val (.ref b), .val (.int (Int32.ofNat i)), .val (.int ((Int32.ofNat (ds.length + (i - o))) + (1 : Int32))), .val (.int (cs.getD i 0))] [(.int ((cs.getD i 0).toInt8.toInt32)), (.int (Int32.ofNat (ds.length + (i - o)))), (.ref b)])) rfl rfl (hb hby dac_56)
      have F158 := Fr.snoc X157 F155 g2
      have F159 := OB1.wr W157
      have F160 := FV1.other W157 (Or.inl n1)
      have F161 := FC1.other W157 (Or.inl n1)
      have F162 := FN1.other W157 (Or.inl n1)
      have F163 := A1.other W157 n3
      have F164 := O1.wr W157 g2
      have F165 := K1.wr W157 (Or.inl (List.mem_of_getElem? (i := 1) rfl))
      have F166 : Arv Z h157 b kb .byte (16 : Int32) (((ds ++ (cs.drop o).take (i + 1 - o)).map own_l8).map Value.int) (.int 0) := by
        rw [own_lo8] at W157
        have q := own_push Ar157 q157 Sz157 Nn157 Hs157 Gs157 (own_fl8 _) W157 (by rw [own_clamp (by omega)]; simp; omega)
        rw [← own_takeS hoi (by omega)]
        simpa using q
      refine own_step (T' := T157) (g' := (mkF m 57 #[.val (.ref a1), .val (.ref b1), .val (.int (Int32.ofNat o)), .val (.int (Int32.ofNat e1)), .val (.int (Int32.ofNat ds.length)), .val (.ref b), .val (.int (Int32.ofNat i)), .val (.int ((Int32.ofNat (ds.length + (i - o))) + (1 : Int32))), .val (.int (cs.getD i 0))] [])) (fun _ kk => st157 _ kk) ?_
      refine own_step (T' := T157) (g' := (mkF m 98 #[.val (.ref a1), .val (.ref b1), .val (.int (Int32.ofNat o)), .val (.int (Int32.ofNat e1)), .val (.int (Int32.ofNat ds.length)), .val (.ref b), .val (.int (Int32.ofNat i)), .val (.int ((Int32.ofNat (ds.length + (i - o))) + (1 : Int32))), .val (.int (cs.getD i 0))] [])) (fun _ kk => XS.goto X157.here hx rfl (pc0 := 57) (pc' := 98) rfl (hb hby dac_57) (by decide) (by decide) kk) ?_
      refine own_step (T' := T157) (g' := (mkF m 101 #[.val (.ref a1), .val (.ref b1), .val (.int (Int32.ofNat o)), .val (.int (Int32.ofNat e1)), .val (.int (Int32.ofNat ds.length)), .val (.ref b), .val (.int ((Int32.ofNat i) + (1 : Int32))), .val (.int ((Int32.ofNat (ds.length + (i - o))) + (1 : Int32))), .val (.int (cs.getD i 0))] [])) (fun _ kk => XS.iinc X157.here hx rfl (hb hby dac_98) rfl (l' := #[.val (.ref a1), .val (.ref b1), .val (.int (Int32.ofNat o)), .val (.int (Int32.ofNat e1)), .val (.int (Int32.ofNat ds.length)), .val (.ref b), .val (.int ((Int32.ofNat i) + (1 : Int32))), .val (.int ((Int32.ofNat (ds.length + (i - o))) + (1 : Int32))), .val (.int (cs.getD i 0))]) rfl kk) ?_
      refine own_step (T' := T157) (g' := (mkF m 26 #[.val (.ref a1), .val (.ref b1), .val (.int (Int32.ofNat o)), .val (.int (Int32.ofNat e1)), .val (.int (Int32.ofNat ds.length)), .val (.ref b), .val (.int ((Int32.ofNat i) + (1 : Int32))), .val (.int ((Int32.ofNat (ds.length + (i - o))) + (1 : Int32))), .val (.int (cs.getD i 0))] [])) (fun _ kk => XS.goto X157.here hx rfl (pc0 := 101) (pc' := 26) rfl (hb hby dac_101) (by decide) (by decide) kk) ?_
      rw [own_one, own_one, show ds.length + (i - o) + 1 = ds.length + (i + 1 - o) by omega]
      exact ih (i + 1) _ _ _ _ (by omega) (by omega) (Or.inr ⟨_, rfl, rfl⟩) X157 e157 F158 F165 F164 F159 F160 F161 F162 F166 F163
  have AB0 : Arv Z h0 b kb .byte (16 : Int32) (((ds ++ (cs.drop o).take (o - o)).map own_l8).map Value.int) (.int 0) := by rw [Nat.sub_self, List.take_zero, List.append_nil]; exact hsb.2.2.2.2
  have lp0 := lp (e1 - o) o .unset _ _ _ (by omega) (Nat.le_refl _) (Or.inl rfl) X142 e142 F140 (Keep.refl h0 [a1, b]) O0 hsb.1 hsb.2.1 hsb.2.2.1 hsb.2.2.2.1 AB0 hA
  rw [Nat.sub_self, Nat.add_zero] at lp0
  exact lp0
theorem daa_0 : decode jdk_68_method_29_code 0 = .ok (.iload_n 2, 1) := by decide +kernel
theorem daa_1 : decode jdk_68_method_29_code 1 = .ok (.iload_n 3, 1) := by decide +kernel
theorem daa_2 : decode jdk_68_method_29_code 2 = .ok (.iadd, 1) := by decide +kernel
theorem daa_3 : decode jdk_68_method_29_code 3 = .ok (.istore 4, 2) := by decide +kernel
theorem daa_5 : decode jdk_68_method_29_code 5 = .ok (.iload_n 2, 1) := by decide +kernel
theorem daa_6 : decode jdk_68_method_29_code 6 = .ok (.iload 4, 2) := by decide +kernel
theorem daa_8 : decode jdk_68_method_29_code 8 = .ok (.aload_n 1, 1) := by decide +kernel
theorem daa_9 : decode jdk_68_method_29_code 9 = .ok (.arraylength, 1) := by decide +kernel
theorem daa_10 : decode jdk_68_method_29_code 10 = .ok (.getstatic 183, 3) := by decide +kernel
theorem daa_13 : decode jdk_68_method_29_code 13 = .ok (.invokestatic 161, 3) := by decide +kernel
theorem daa_16 : decode jdk_68_method_29_code 16 = .ok (.pop, 1) := by decide +kernel
theorem daa_17 : decode jdk_68_method_29_code 17 = .ok (.aload_n 0, 1) := by decide +kernel
theorem daa_18 : decode jdk_68_method_29_code 18 = .ok (.aload_n 0, 1) := by decide +kernel
theorem daa_19 : decode jdk_68_method_29_code 19 = .ok (.getfield 79, 3) := by decide +kernel
theorem daa_22 : decode jdk_68_method_29_code 22 = .ok (.iload_n 3, 1) := by decide +kernel
theorem daa_23 : decode jdk_68_method_29_code 23 = .ok (.iadd, 1) := by decide +kernel
theorem daa_24 : decode jdk_68_method_29_code 24 = .ok (.invokevirtual 100, 3) := by decide +kernel
theorem daa_27 : decode jdk_68_method_29_code 27 = .ok (.aload_n 0, 1) := by decide +kernel
theorem daa_28 : decode jdk_68_method_29_code 28 = .ok (.aload_n 1, 1) := by decide +kernel
theorem daa_29 : decode jdk_68_method_29_code 29 = .ok (.iload_n 2, 1) := by decide +kernel
theorem daa_30 : decode jdk_68_method_29_code 30 = .ok (.iload 4, 2) := by decide +kernel
theorem daa_32 : decode jdk_68_method_29_code 32 = .ok (.invokevirtual 239, 3) := by decide +kernel
theorem daa_35 : decode jdk_68_method_29_code 35 = .ok (.aload_n 0, 1) := by decide +kernel
theorem daa_36 : decode jdk_68_method_29_code 36 = .ok (.areturn, 1) := by decide +kernel
set_option maxRecDepth 65536 in
set_option maxHeartbeats 40000000 in
theorem rm_aa (l : Launch) (Z : State) (a0 : Array Value) (hw : ∀ d ∈ tables_1, d.before a0 Z = true) (a1 b b1 : Addr) (kb kc : ClassId) (cs ds : List Int32) (o n : Nat) (zc : Int32) (fi : Value) (h0 : Heap) (O0 : Old Z Z.heap.size h0) (hsb : own_SB Z h0 a1 b kb ds) (hA : Arv Z h0 b1 kc .char (Int32.ofNat cs.length) (cs.map Value.int) (.int 0)) (hB : own_B cs) (hl : cs.length ≤ 4000) (g1 : Z.heap.size ≤ a1) (g2 : Z.heap.size ≤ b) (n1 : a1 ≠ b) (n2 : b1 ≠ a1) (n3 : b1 ≠ b) (he : o + n ≤ cs.length) (hd : ds.length + n ≤ 16) (SC : Sta Z Z.heap "java/lang/String" "COMPACT_STRINGS" "Z" (.int zc)) (hzc : ¬ zc = (0 : Int32)) (IO : Sta Z Z.heap "jdk/internal/util/Preconditions" "IOOBE_FORMATTER" "Ljava/util/function/BiFunction;" fi) (rfi : fi.isRef = true) :
    own_Con l Z (⟨"java/lang/AbstractStringBuilder", "append", "([CII)Ljava/lang/AbstractStringBuilder;"⟩ : MethodName) jdk_68_method_29_code 5 (some (.object "java/lang/AbstractStringBuilder")) ({ frames := 3, cells := 0, slots := 0, locals := 80 } : Room) #[(.ref a1), (.ref b1), (.int (Int32.ofNat o)), (.int (Int32.ofNat n))] h0 (fun v h L => v = some (.ref a1) ∧ Fr Z.heap.size L ∧ Keep h0 h [a1, b] ∧ own_SB Z h a1 b kb (ds ++ (cs.drop o).take n)) := by
  refine own_con (ls := #[.val (.ref a1), .val (.ref b1), .val (.int (Int32.ofNat o)), .val (.int (Int32.ofNat n)), .unset]) (plainFor_of_name pn_java_lang_AbstractStringBuilder) (fun m => by first | (simp [entryFrame, mkF, argsToLocals, Value.category]; done) | rfl) ?_
  intro p e s m below meth c s₁ hx hby hml0 hown0 hnm0 hret0 hlk hZ X0 e0
  have hml : c.maxLocals = 5 := hml0
  have hown : s.vm.findClass "java/lang/AbstractStringBuilder" = some m.cls := hown0
  have hnm : meth.name = "append" := hnm0
  have hret : meth.sig.returnType = (some (.object "java/lang/AbstractStringBuilder")) := hret0
  have F167 := Fr.nil Z.heap.size
  have F168 := Keep.refl h0 []
  obtain ⟨OB169, FV169, FC169, FN169, AB169⟩ := id hsb
  have F170 := Keep.refl h0 [a1, b]
  refine own_step (T' := s₁) (g' := (mkF m 1 #[.val (.ref a1), .val (.ref b1), .val (.int (Int32.ofNat o)), .val (.int (Int32.ofNat n)), .unset] [(.int (Int32.ofNat o))])) (fun _ kk => XS.iloadN X0.here hx rfl (hb hby daa_0) rfl kk) ?_
  refine own_step (T' := s₁) (g' := (mkF m 2 #[.val (.ref a1), .val (.ref b1), .val (.int (Int32.ofNat o)), .val (.int (Int32.ofNat n)), .unset] [(.int (Int32.ofNat n)), (.int (Int32.ofNat o))])) (fun _ kk => XS.iloadN X0.here hx rfl (hb hby daa_1) rfl kk) ?_
  refine own_step (T' := s₁) (g' := (mkF m 3 #[.val (.ref a1), .val (.ref b1), .val (.int (Int32.ofNat o)), .val (.int (Int32.ofNat n)), .unset] [(.int ((Int32.ofNat o) + (Int32.ofNat n)))])) (fun _ kk => XS.iadd X0.here hx rfl (hb hby daa_2) rfl kk) ?_
  rw [own_addn]
  refine own_step (T' := s₁) (g' := (mkF m 5 #[.val (.ref a1), .val (.ref b1), .val (.int (Int32.ofNat o)), .val (.int (Int32.ofNat n)), .val (.int (Int32.ofNat (o + n)))] [])) (fun _ kk => XS.istore X0.here hx rfl (hb hby daa_3) rfl (l' := #[.val (.ref a1), .val (.ref b1), .val (.int (Int32.ofNat o)), .val (.int (Int32.ofNat n)), .val (.int (Int32.ofNat (o + n)))]) rfl kk) ?_
  refine own_step (T' := s₁) (g' := (mkF m 6 #[.val (.ref a1), .val (.ref b1), .val (.int (Int32.ofNat o)), .val (.int (Int32.ofNat n)), .val (.int (Int32.ofNat (o + n)))] [(.int (Int32.ofNat o))])) (fun _ kk => XS.iloadN X0.here hx rfl (hb hby daa_5) rfl kk) ?_
  refine own_step (T' := s₁) (g' := (mkF m 8 #[.val (.ref a1), .val (.ref b1), .val (.int (Int32.ofNat o)), .val (.int (Int32.ofNat n)), .val (.int (Int32.ofNat (o + n)))] [(.int (Int32.ofNat (o + n))), (.int (Int32.ofNat o))])) (fun _ kk => XS.iload X0.here hx rfl (hb hby daa_6) rfl kk) ?_
  refine own_step (T' := s₁) (g' := (mkF m 9 #[.val (.ref a1), .val (.ref b1), .val (.int (Int32.ofNat o)), .val (.int (Int32.ofNat n)), .val (.int (Int32.ofNat (o + n)))] [(.ref b1), (.int (Int32.ofNat (o + n))), (.int (Int32.ofNat o))])) (fun _ kk => XS.aloadN X0.here hx rfl (hb hby daa_8) rfl rfl kk) ?_
  refine own_step (T' := s₁) (g' := (mkF m 10 #[.val (.ref a1), .val (.ref b1), .val (.int (Int32.ofNat o)), .val (.int (Int32.ofNat n)), .val (.int (Int32.ofNat (o + n)))] [(.int (Int32.ofNat cs.length)), (.int (Int32.ofNat (o + n))), (.int (Int32.ofNat o))])) (fun _ kk => own_alen X0 hx hZ e0 hA (g := (mkF m 9 #[.val (.ref a1), .val (.ref b1), .val (.int (Int32.ofNat o)), .val (.int (Int32.ofNat n)), .val (.int (Int32.ofNat (o + n)))] [(.ref b1), (.int (Int32.ofNat (o + n))), (.int (Int32.ofNat o))])) rfl rfl (hb hby daa_9) _ kk) ?_
  obtain ⟨T171, X171, e171, st171⟩ := getS (host := "") X0 hx hZ hown (w76 hw) Via.refl e0 (IO.ext O0.2) (g := (mkF m 10 #[.val (.ref a1), .val (.ref b1), .val (.int (Int32.ofNat o)), .val (.int (Int32.ofNat n)), .val (.int (Int32.ofNat (o + n)))] [(.int (Int32.ofNat cs.length)), (.int (Int32.ofNat (o + n))), (.int (Int32.ofNat o))])) rfl (hb hby daa_10)
  refine own_step (T' := T171) (g' := (mkF m 13 #[.val (.ref a1), .val (.ref b1), .val (.int (Int32.ofNat o)), .val (.int (Int32.ofNat n)), .val (.int (Int32.ofNat (o + n)))] [fi, (.int (Int32.ofNat cs.length)), (.int (Int32.ofNat (o + n))), (.int (Int32.ofNat o))])) (fun _ kk => st171 _ kk) ?_
  obtain ⟨T173, L173, _, h173, X173, e173, ⟨rfl, Nq172, eh172⟩, st173⟩ := own_callS X171 hx hZ hown (w79 hw) (w80 hw) (w81 hw) (w77 hw) (by decide) (g := (mkF m 13 #[.val (.ref a1), .val (.ref b1), .val (.int (Int32.ofNat o)), .val (.int (Int32.ofNat n)), .val (.int (Int32.ofNat (o + n)))] [fi, (.int (Int32.ofNat cs.length)), (.int (Int32.ofNat (o + n))), (.int (Int32.ofNat o))])) rfl (by rw [hml]; rfl) (argsL := [(.int (Int32.ofNat o)), (.int (Int32.ofNat (o + n))), (.int (Int32.ofNat cs.length)), fi]) (rest := []) (rm_cf l Z a0 hw (Int32.ofNat o) (Int32.ofNat (o + n)) (Int32.ofNat cs.length) fi rfi _ O0 (own_nneg (by rw [own_ofn (by omega)]; omega)) (own_nltn (by omega) (by omega)) (own_nltn (by omega) (by omega))) e171 pd__IIILjava_util_function_BiFunction__I rfl rfl (W := 0) (by show 2 * 0 + _ ≤ _; first | exact Nat.le_of_eq rfl | simp [own_cref own_of_ref]) (hb hby daa_13) (by decide) (by decide) (by decide) (by decide)
  have F174 := Fr.app F167 Nq172
  have F175 := e173.trans eh172
  refine own_step (T' := T173) (g' := (mkF m 16 #[.val (.ref a1), .val (.ref b1), .val (.int (Int32.ofNat o)), .val (.int (Int32.ofNat n)), .val (.int (Int32.ofNat (o + n)))] [(.int (Int32.ofNat o))])) (fun _ kk => st173 _ kk) ?_
  refine own_step (T' := T173) (g' := (mkF m 17 #[.val (.ref a1), .val (.ref b1), .val (.int (Int32.ofNat o)), .val (.int (Int32.ofNat n)), .val (.int (Int32.ofNat (o + n)))] [])) (fun _ kk => XS.pop X173.here hx rfl (hb hby daa_16) rfl rfl kk) ?_
  refine own_step (T' := T173) (g' := (mkF m 18 #[.val (.ref a1), .val (.ref b1), .val (.int (Int32.ofNat o)), .val (.int (Int32.ofNat n)), .val (.int (Int32.ofNat (o + n)))] [(.ref a1)])) (fun _ kk => XS.aloadN X173.here hx rfl (hb hby daa_17) rfl rfl kk) ?_
  refine own_step (T' := T173) (g' := (mkF m 19 #[.val (.ref a1), .val (.ref b1), .val (.int (Int32.ofNat o)), .val (.int (Int32.ofNat n)), .val (.int (Int32.ofNat (o + n)))] [(.ref a1), (.ref a1)])) (fun _ kk => XS.aloadN X173.here hx rfl (hb hby daa_18) rfl rfl kk) ?_
  obtain ⟨T176, X176, e176, st176⟩ := getF X173 hx hZ hown (host := "") (Or.inl (w65 hw)) Via.refl F175 FN169 (g := (mkF m 19 #[.val (.ref a1), .val (.ref b1), .val (.int (Int32.ofNat o)), .val (.int (Int32.ofNat n)), .val (.int (Int32.ofNat (o + n)))] [(.ref a1), (.ref a1)])) rfl rfl (hb hby daa_19)
  refine own_step (T' := T176) (g' := (mkF m 22 #[.val (.ref a1), .val (.ref b1), .val (.int (Int32.ofNat o)), .val (.int (Int32.ofNat n)), .val (.int (Int32.ofNat (o + n)))] [(.int (Int32.ofNat ds.length)), (.ref a1)])) (fun _ kk => st176 _ kk) ?_
  refine own_step (T' := T176) (g' := (mkF m 23 #[.val (.ref a1), .val (.ref b1), .val (.int (Int32.ofNat o)), .val (.int (Int32.ofNat n)), .val (.int (Int32.ofNat (o + n)))] [(.int (Int32.ofNat n)), (.int (Int32.ofNat ds.length)), (.ref a1)])) (fun _ kk => XS.iloadN X176.here hx rfl (hb hby daa_22) rfl kk) ?_
  refine own_step (T' := T176) (g' := (mkF m 24 #[.val (.ref a1), .val (.ref b1), .val (.int (Int32.ofNat o)), .val (.int (Int32.ofNat n)), .val (.int (Int32.ofNat (o + n)))] [(.int ((Int32.ofNat ds.length) + (Int32.ofNat n))), (.ref a1)])) (fun _ kk => XS.iadd X176.here hx rfl (hb hby daa_23) rfl kk) ?_
  rw [own_addn ds.length n]
  obtain ⟨T178, L178, _, h178, X178, e178, ⟨rfl, Nq177, eh177⟩, st178⟩ := own_callP X176 hx hZ hown (w82 hw) (show own_NI Z "java/lang/AbstractStringBuilder" from own_NI.sel (w85 hw)) (w84 hw) (w83 hw) (w86 hw) (w32 hw) (by decide) OB169.1 (g := (mkF m 24 #[.val (.ref a1), .val (.ref b1), .val (.int (Int32.ofNat o)), .val (.int (Int32.ofNat n)), .val (.int (Int32.ofNat (o + n)))] [(.int (Int32.ofNat (ds.length + n))), (.ref a1)])) rfl (by rw [hml]; rfl) (argsL := [(.int (Int32.ofNat (ds.length + n)))]) (rest := []) (rm_en l Z a0 hw a1 b kb ds (Int32.ofNat (ds.length + n)) _ O0 hsb (by rw [own_ofn (by omega)]; omega)) e176 pd__I_V rfl rfl (W := 0) (by show 2 * 0 + _ ≤ _; first | exact Nat.le_of_eq rfl | simp [own_cref own_of_ref]) (hb hby daa_24) (by decide) (by decide) (by decide) (by decide)
  have F179 := Fr.app F174 Nq177
  have F180 := e178.trans eh177
  refine own_step (T' := T178) (g' := (mkF m 27 #[.val (.ref a1), .val (.ref b1), .val (.int (Int32.ofNat o)), .val (.int (Int32.ofNat n)), .val (.int (Int32.ofNat (o + n)))] [])) (fun _ kk => st178 _ kk) ?_
  refine own_step (T' := T178) (g' := (mkF m 28 #[.val (.ref a1), .val (.ref b1), .val (.int (Int32.ofNat o)), .val (.int (Int32.ofNat n)), .val (.int (Int32.ofNat (o + n)))] [(.ref a1)])) (fun _ kk => XS.aloadN X178.here hx rfl (hb hby daa_27) rfl rfl kk) ?_
  refine own_step (T' := T178) (g' := (mkF m 29 #[.val (.ref a1), .val (.ref b1), .val (.int (Int32.ofNat o)), .val (.int (Int32.ofNat n)), .val (.int (Int32.ofNat (o + n)))] [(.ref b1), (.ref a1)])) (fun _ kk => XS.aloadN X178.here hx rfl (hb hby daa_28) rfl rfl kk) ?_
  refine own_step (T' := T178) (g' := (mkF m 30 #[.val (.ref a1), .val (.ref b1), .val (.int (Int32.ofNat o)), .val (.int (Int32.ofNat n)), .val (.int (Int32.ofNat (o + n)))] [(.int (Int32.ofNat o)), (.ref b1), (.ref a1)])) (fun _ kk => XS.iloadN X178.here hx rfl (hb hby daa_29) rfl kk) ?_
  refine own_step (T' := T178) (g' := (mkF m 32 #[.val (.ref a1), .val (.ref b1), .val (.int (Int32.ofNat o)), .val (.int (Int32.ofNat n)), .val (.int (Int32.ofNat (o + n)))] [(.int (Int32.ofNat (o + n))), (.int (Int32.ofNat o)), (.ref b1), (.ref a1)])) (fun _ kk => XS.iload X178.here hx rfl (hb hby daa_30) rfl kk) ?_
  obtain ⟨T181, L181, _, h181, X181, e181, ⟨rfl, Nc, Kc, Sc⟩, st181⟩ := own_callP X178 hx hZ hown (w87 hw) (show own_NI Z "java/lang/AbstractStringBuilder" from own_NI.sel (w85 hw)) (w89 hw) (w88 hw) (w91 hw) (w32 hw) (by decide) OB169.1 (g := (mkF m 32 #[.val (.ref a1), .val (.ref b1), .val (.int (Int32.ofNat o)), .val (.int (Int32.ofNat n)), .val (.int (Int32.ofNat (o + n)))] [(.int (Int32.ofNat (o + n))), (.int (Int32.ofNat o)), (.ref b1), (.ref a1)])) rfl (by rw [hml]; rfl) (argsL := [(.ref b1), (.int (Int32.ofNat o)), (.int (Int32.ofNat (o + n)))]) (rest := []) (rm_ac l Z a0 hw a1 b b1 kb kc cs ds o (o + n) zc _ O0 hsb hA hB hl g1 g2 n1 n2 n3 (by omega) he (by omega) SC hzc) F180 pd___CII_V rfl rfl (W := 0) (by show 2 * 0 + _ ≤ _; first | exact Nat.le_of_eq rfl | simp [own_cref own_of_ref]) (hb hby daa_32) (by decide) (by decide) (by decide) (by decide)
  have F182 := Fr.app F179 Nc
  have F183 := O0.keep Kc (allS g1 (allS g2 all0))
  have F184 := F170.trans Kc (allS (Or.inl (List.mem_of_getElem? (i := 0) rfl)) (allS (Or.inl (List.mem_of_getElem? (i := 1) rfl)) all0))
  refine own_step (T' := T181) (g' := (mkF m 35 #[.val (.ref a1), .val (.ref b1), .val (.int (Int32.ofNat o)), .val (.int (Int32.ofNat n)), .val (.int (Int32.ofNat (o + n)))] [])) (fun _ kk => st181 _ kk) ?_
  refine own_step (T' := T181) (g' := (mkF m 36 #[.val (.ref a1), .val (.ref b1), .val (.int (Int32.ofNat o)), .val (.int (Int32.ofNat n)), .val (.int (Int32.ofNat (o + n)))] [(.ref a1)])) (fun _ kk => XS.aloadN X181.here hx rfl (hb hby daa_35) rfl rfl kk) ?_
  rw [Nat.add_sub_cancel_left] at Sc
  exact own_retA X181 hx hlk (t := (.object "java/lang/AbstractStringBuilder")) hret rfl rfl rfl (hb hby daa_36) e181 ⟨rfl, F182, F184, Sc⟩ (by decide) (by decide)
theorem dsa_0 : decode jdk_67_method_12_code 0 = .ok (.aload_n 0, 1) := by decide +kernel
theorem dsa_1 : decode jdk_67_method_12_code 1 = .ok (.aload_n 1, 1) := by decide +kernel
theorem dsa_2 : decode jdk_67_method_12_code 2 = .ok (.iload_n 2, 1) := by decide +kernel
theorem dsa_3 : decode jdk_67_method_12_code 3 = .ok (.iload_n 3, 1) := by decide +kernel
theorem dsa_4 : decode jdk_67_method_12_code 4 = .ok (.invokespecial 44, 3) := by decide +kernel
theorem dsa_7 : decode jdk_67_method_12_code 7 = .ok (.pop, 1) := by decide +kernel
theorem dsa_8 : decode jdk_67_method_12_code 8 = .ok (.aload_n 0, 1) := by decide +kernel
theorem dsa_9 : decode jdk_67_method_12_code 9 = .ok (.areturn, 1) := by decide +kernel
set_option maxRecDepth 65536 in
set_option maxHeartbeats 40000000 in
theorem rm_sa (l : Launch) (Z : State) (a0 : Array Value) (hw : ∀ d ∈ tables_1, d.before a0 Z = true) (a1 b b1 : Addr) (kb kc : ClassId) (cs ds : List Int32) (o n : Nat) (zc : Int32) (fi : Value) (h0 : Heap) (O0 : Old Z Z.heap.size h0) (hsb : own_SB Z h0 a1 b kb ds) (hA : Arv Z h0 b1 kc .char (Int32.ofNat cs.length) (cs.map Value.int) (.int 0)) (hB : own_B cs) (hl : cs.length ≤ 4000) (g1 : Z.heap.size ≤ a1) (g2 : Z.heap.size ≤ b) (n1 : a1 ≠ b) (n2 : b1 ≠ a1) (n3 : b1 ≠ b) (he : o + n ≤ cs.length) (hd : ds.length + n ≤ 16) (SC : Sta Z Z.heap "java/lang/String" "COMPACT_STRINGS" "Z" (.int zc)) (hzc : ¬ zc = (0 : Int32)) (IO : Sta Z Z.heap "jdk/internal/util/Preconditions" "IOOBE_FORMATTER" "Ljava/util/function/BiFunction;" fi) (rfi : fi.isRef = true) :
    own_Con l Z (⟨"java/lang/StringBuilder", "append", "([CII)Ljava/lang/StringBuilder;"⟩ : MethodName) jdk_67_method_12_code 4 (some (.object "java/lang/StringBuilder")) ({ frames := 4, cells := 0, slots := 0, locals := 96 } : Room) #[(.ref a1), (.ref b1), (.int (Int32.ofNat o)), (.int (Int32.ofNat n))] h0 (fun v h L => v = some (.ref a1) ∧ Fr Z.heap.size L ∧ Keep h0 h [a1, b] ∧ own_SB Z h a1 b kb (ds ++ (cs.drop o).take n)) := by
  refine own_con (ls := #[.val (.ref a1), .val (.ref b1), .val (.int (Int32.ofNat o)), .val (.int (Int32.ofNat n))]) (plainFor_of_name pn_java_lang_StringBuilder) (fun m => by first | (simp [entryFrame, mkF, argsToLocals, Value.category]; done) | rfl) ?_
  intro p e s m below meth c s₁ hx hby hml0 hown0 hnm0 hret0 hlk hZ X0 e0
  have hml : c.maxLocals = 4 := hml0
  have hown : s.vm.findClass "java/lang/StringBuilder" = some m.cls := hown0
  have hnm : meth.name = "append" := hnm0
  have hret : meth.sig.returnType = (some (.object "java/lang/StringBuilder")) := hret0
  have F185 := Fr.nil Z.heap.size
  have F186 := Keep.refl h0 []
  have F187 := Keep.refl h0 [a1, b]
  refine own_step (T' := s₁) (g' := (mkF m 1 #[.val (.ref a1), .val (.ref b1), .val (.int (Int32.ofNat o)), .val (.int (Int32.ofNat n))] [(.ref a1)])) (fun _ kk => XS.aloadN X0.here hx rfl (hb hby dsa_0) rfl rfl kk) ?_
  refine own_step (T' := s₁) (g' := (mkF m 2 #[.val (.ref a1), .val (.ref b1), .val (.int (Int32.ofNat o)), .val (.int (Int32.ofNat n))] [(.ref b1), (.ref a1)])) (fun _ kk => XS.aloadN X0.here hx rfl (hb hby dsa_1) rfl rfl kk) ?_
  refine own_step (T' := s₁) (g' := (mkF m 3 #[.val (.ref a1), .val (.ref b1), .val (.int (Int32.ofNat o)), .val (.int (Int32.ofNat n))] [(.int (Int32.ofNat o)), (.ref b1), (.ref a1)])) (fun _ kk => XS.iloadN X0.here hx rfl (hb hby dsa_2) rfl kk) ?_
  refine own_step (T' := s₁) (g' := (mkF m 4 #[.val (.ref a1), .val (.ref b1), .val (.int (Int32.ofNat o)), .val (.int (Int32.ofNat n))] [(.int (Int32.ofNat n)), (.int (Int32.ofNat o)), (.ref b1), (.ref a1)])) (fun _ kk => XS.iloadN X0.here hx rfl (hb hby dsa_3) rfl kk) ?_
  obtain ⟨T188, L188, _, h188, X188, e188, ⟨rfl, Nc, Kc, Sc⟩, st188⟩ := own_callSup X0 hx hZ hown (w72 hw) (show own_NI Z "java/lang/AbstractStringBuilder" from own_NI.sel (w85 hw)) (w62 hw) (w73 hw) (w75 hw) (w32 hw) (by decide) (by decide) hsb.1.1 (g := (mkF m 4 #[.val (.ref a1), .val (.ref b1), .val (.int (Int32.ofNat o)), .val (.int (Int32.ofNat n))] [(.int (Int32.ofNat n)), (.int (Int32.ofNat o)), (.ref b1), (.ref a1)])) rfl (by rw [hml]; rfl) (argsL := [(.ref b1), (.int (Int32.ofNat o)), (.int (Int32.ofNat n))]) (rest := []) (rm_aa l Z a0 hw a1 b b1 kb kc cs ds o n zc fi _ O0 hsb hA hB hl g1 g2 n1 n2 n3 he hd SC hzc IO rfi) e0 pd___CII_Ljava_lang_AbstractStringBuilder_ rfl rfl (W := 0) (by show 2 * 0 + _ ≤ _; first | exact Nat.le_of_eq rfl | simp [own_cref own_of_ref]) (hb hby dsa_4) (by decide) (by decide) (by decide) (by decide)
  have F189 := Fr.app F185 Nc
  have F190 := O0.keep Kc (allS g1 (allS g2 all0))
  have F191 := F187.trans Kc (allS (Or.inl (List.mem_of_getElem? (i := 0) rfl)) (allS (Or.inl (List.mem_of_getElem? (i := 1) rfl)) all0))
  refine own_step (T' := T188) (g' := (mkF m 7 #[.val (.ref a1), .val (.ref b1), .val (.int (Int32.ofNat o)), .val (.int (Int32.ofNat n))] [(.ref a1)])) (fun _ kk => st188 _ kk) ?_
  refine own_step (T' := T188) (g' := (mkF m 8 #[.val (.ref a1), .val (.ref b1), .val (.int (Int32.ofNat o)), .val (.int (Int32.ofNat n))] [])) (fun _ kk => XS.pop X188.here hx rfl (hb hby dsa_7) rfl rfl kk) ?_
  refine own_step (T' := T188) (g' := (mkF m 9 #[.val (.ref a1), .val (.ref b1), .val (.int (Int32.ofNat o)), .val (.int (Int32.ofNat n))] [(.ref a1)])) (fun _ kk => XS.aloadN X188.here hx rfl (hb hby dsa_8) rfl rfl kk) ?_
  exact own_retA X188 hx hlk (t := (.object "java/lang/StringBuilder")) hret rfl rfl rfl (hb hby dsa_9) e188 ⟨rfl, F189, F191, Sc⟩ (by decide) (by decide)
theorem dwr_0 : decode prog_1_method_2_code 0 = .ok (.aload_n 0, 1) := by decide +kernel
theorem dwr_1 : decode prog_1_method_2_code 1 = .ok (.iload_n 3, 1) := by decide +kernel
theorem dwr_2 : decode prog_1_method_2_code 2 = .ok (.invokevirtual 20, 3) := by decide +kernel
theorem dwr_5 : decode prog_1_method_2_code 5 = .ok (.aload_n 0, 1) := by decide +kernel
theorem dwr_6 : decode prog_1_method_2_code 6 = .ok (.getfield 10, 3) := by decide +kernel
theorem dwr_9 : decode prog_1_method_2_code 9 = .ok (.aload_n 1, 1) := by decide +kernel
theorem dwr_10 : decode prog_1_method_2_code 10 = .ok (.iload_n 2, 1) := by decide +kernel
theorem dwr_11 : decode prog_1_method_2_code 11 = .ok (.iload_n 3, 1) := by decide +kernel
theorem dwr_12 : decode prog_1_method_2_code 12 = .ok (.invokevirtual 24, 3) := by decide +kernel
theorem dwr_15 : decode prog_1_method_2_code 15 = .ok (.pop, 1) := by decide +kernel
theorem dwr_16 : decode prog_1_method_2_code 16 = .ok (.return_, 1) := by decide +kernel
set_option maxRecDepth 65536 in
set_option maxHeartbeats 40000000 in
theorem rm_wr (l : Launch) (Z : State) (a0 : Array Value) (hw : ∀ d ∈ tables_1, d.before a0 Z = true) (a1 sb b b1 : Addr) (kb kc : ClassId) (cs ds : List Int32) (o n : Nat) (mo zc : Int32) (fi : Value) (h0 : Heap) (O0 : Old Z Z.heap.size h0) (FT : Fld Z h0 a1 "com/example/hradcany/hradcany/authzen/AnswerText" "text" "Ljava/lang/StringBuilder;" (.ref sb)) (FM : Fld Z h0 a1 "com/example/hradcany/hradcany/authzen/AnswerText" "mostBytes" "I" (.int mo)) (ET : Exa Z h0 a1 "com/example/hradcany/hradcany/authzen/AnswerText") (hsb : own_SB Z h0 sb b kb ds) (hA : Arv Z h0 b1 kc .char (Int32.ofNat cs.length) (cs.map Value.int) (.int 0)) (hB : own_B cs) (hl : cs.length ≤ 4000) (g1 : Z.heap.size ≤ sb) (g2 : Z.heap.size ≤ b) (n1 : sb ≠ b) (n2 : b1 ≠ sb) (n3 : b1 ≠ b) (he : o + n ≤ cs.length) (hd : ds.length + n ≤ 16) (SC : Sta Z Z.heap "java/lang/String" "COMPACT_STRINGS" "Z" (.int zc)) (hzc : ¬ zc = (0 : Int32)) (IO : Sta Z Z.heap "jdk/internal/util/Preconditions" "IOOBE_FORMATTER" "Ljava/util/function/BiFunction;" fi) (rfi : fi.isRef = true) (hle : ¬ (mo - Int32.ofNat ds.length) < Int32.ofNat n) :
    own_Con l Z (⟨"com/example/hradcany/hradcany/authzen/AnswerText", "write", "([CII)V"⟩ : MethodName) prog_1_method_2_code 4 none ({ frames := 5, cells := 0, slots := 0, locals := 111 } : Room) #[(.ref a1), (.ref b1), (.int (Int32.ofNat o)), (.int (Int32.ofNat n))] h0 (fun v h L => v = none ∧ Fr Z.heap.size L ∧ Keep h0 h [sb, b] ∧ own_SB Z h sb b kb (ds ++ (cs.drop o).take n)) := by
  refine own_con (ls := #[.val (.ref a1), .val (.ref b1), .val (.int (Int32.ofNat o)), .val (.int (Int32.ofNat n))]) (plainFor_of_name pn_com_example_hradcany_hradcany_authzen_AnswerText) (fun m => by first | (simp [entryFrame, mkF, argsToLocals, Value.category]; done) | rfl) ?_
  intro p e s m below meth c s₁ hx hby hml0 hown0 hnm0 hret0 hlk hZ X0 e0
  have hml : c.maxLocals = 4 := hml0
  have hown : s.vm.findClass "com/example/hradcany/hradcany/authzen/AnswerText" = some m.cls := hown0
  have hnm : meth.name = "write" := hnm0
  have hret : meth.sig.returnType = none := hret0
  have F192 := Fr.nil Z.heap.size
  have F193 := Keep.refl h0 []
  have F194 := Keep.refl h0 [sb, b]
  refine own_step (T' := s₁) (g' := (mkF m 1 #[.val (.ref a1), .val (.ref b1), .val (.int (Int32.ofNat o)), .val (.int (Int32.ofNat n))] [(.ref a1)])) (fun _ kk => XS.aloadN X0.here hx rfl (hb hby dwr_0) rfl rfl kk) ?_
  refine own_step (T' := s₁) (g' := (mkF m 2 #[.val (.ref a1), .val (.ref b1), .val (.int (Int32.ofNat o)), .val (.int (Int32.ofNat n))] [(.int (Int32.ofNat n)), (.ref a1)])) (fun _ kk => XS.iloadN X0.here hx rfl (hb hby dwr_1) rfl kk) ?_
  obtain ⟨T196, L196, _, h196, X196, e196, ⟨rfl, Nq195, eh195⟩, st196⟩ := own_callP X0 hx hZ hown (w51 hw) (own_NI.inst (w7 hw)) (w53 hw) (w52 hw) (w54 hw) (w8 hw) (by decide) ET (g := (mkF m 2 #[.val (.ref a1), .val (.ref b1), .val (.int (Int32.ofNat o)), .val (.int (Int32.ofNat n))] [(.int (Int32.ofNat n)), (.ref a1)])) rfl (by rw [hml]; rfl) (argsL := [(.int (Int32.ofNat n))]) (rest := []) (rm_tk l Z a0 hw a1 sb (Int32.ofNat n) mo (Int32.ofNat ds.length) _ O0 FT FM hsb.1.1 hsb.2.2.2.1 hle) e0 pd__I_V rfl rfl (W := 0) (by show 2 * 0 + _ ≤ _; first | exact Nat.le_of_eq rfl | simp [own_cref own_of_ref]) (hb hby dwr_2) (by decide) (by decide) (by decide) (by decide)
  have F197 := Fr.app F192 Nq195
  have F198 := e196.trans eh195
  refine own_step (T' := T196) (g' := (mkF m 5 #[.val (.ref a1), .val (.ref b1), .val (.int (Int32.ofNat o)), .val (.int (Int32.ofNat n))] [])) (fun _ kk => st196 _ kk) ?_
  refine own_step (T' := T196) (g' := (mkF m 6 #[.val (.ref a1), .val (.ref b1), .val (.int (Int32.ofNat o)), .val (.int (Int32.ofNat n))] [(.ref a1)])) (fun _ kk => XS.aloadN X196.here hx rfl (hb hby dwr_5) rfl rfl kk) ?_
  obtain ⟨T199, X199, e199, st199⟩ := getF X196 hx hZ hown (host := "") (Or.inl (w42 hw)) Via.refl F198 FT (g := (mkF m 6 #[.val (.ref a1), .val (.ref b1), .val (.int (Int32.ofNat o)), .val (.int (Int32.ofNat n))] [(.ref a1)])) rfl rfl (hb hby dwr_6)
  refine own_step (T' := T199) (g' := (mkF m 9 #[.val (.ref a1), .val (.ref b1), .val (.int (Int32.ofNat o)), .val (.int (Int32.ofNat n))] [(.ref sb)])) (fun _ kk => st199 _ kk) ?_
  refine own_step (T' := T199) (g' := (mkF m 10 #[.val (.ref a1), .val (.ref b1), .val (.int (Int32.ofNat o)), .val (.int (Int32.ofNat n))] [(.ref b1), (.ref sb)])) (fun _ kk => XS.aloadN X199.here hx rfl (hb hby dwr_9) rfl rfl kk) ?_
  refine own_step (T' := T199) (g' := (mkF m 11 #[.val (.ref a1), .val (.ref b1), .val (.int (Int32.ofNat o)), .val (.int (Int32.ofNat n))] [(.int (Int32.ofNat o)), (.ref b1), (.ref sb)])) (fun _ kk => XS.iloadN X199.here hx rfl (hb hby dwr_10) rfl kk) ?_
  refine own_step (T' := T199) (g' := (mkF m 12 #[.val (.ref a1), .val (.ref b1), .val (.int (Int32.ofNat o)), .val (.int (Int32.ofNat n))] [(.int (Int32.ofNat n)), (.int (Int32.ofNat o)), (.ref b1), (.ref sb)])) (fun _ kk => XS.iloadN X199.here hx rfl (hb hby dwr_11) rfl kk) ?_
  obtain ⟨T200, L200, _, h200, X200, e200, ⟨rfl, Nc, Kc, Sc⟩, st200⟩ := own_callV X199 hx hZ hown (w67 hw) (w68 hw) (w70 hw) (w69 hw) (w71 hw) (w24 hw) (by decide) hsb.1.1 (g := (mkF m 12 #[.val (.ref a1), .val (.ref b1), .val (.int (Int32.ofNat o)), .val (.int (Int32.ofNat n))] [(.int (Int32.ofNat n)), (.int (Int32.ofNat o)), (.ref b1), (.ref sb)])) rfl (by rw [hml]; rfl) (argsL := [(.ref b1), (.int (Int32.ofNat o)), (.int (Int32.ofNat n))]) (rest := []) (rm_sa l Z a0 hw sb b b1 kb kc cs ds o n zc fi _ O0 hsb hA hB hl g1 g2 n1 n2 n3 he hd SC hzc IO rfi) e199 pd___CII_Ljava_lang_StringBuilder_ rfl rfl (W := 0) (by show 2 * 0 + _ ≤ _; first | exact Nat.le_of_eq rfl | simp [own_cref own_of_ref]) (hb hby dwr_12) (by decide) (by decide) (by decide) (by decide)
  have F201 := Fr.app F197 Nc
  have F202 := O0.keep Kc (allS g1 (allS g2 all0))
  have F203 := F194.trans Kc (allS (Or.inl (List.mem_of_getElem? (i := 0) rfl)) (allS (Or.inl (List.mem_of_getElem? (i := 1) rfl)) all0))
  refine own_step (T' := T200) (g' := (mkF m 15 #[.val (.ref a1), .val (.ref b1), .val (.int (Int32.ofNat o)), .val (.int (Int32.ofNat n))] [(.ref sb)])) (fun _ kk => st200 _ kk) ?_
  refine own_step (T' := T200) (g' := (mkF m 16 #[.val (.ref a1), .val (.ref b1), .val (.int (Int32.ofNat o)), .val (.int (Int32.ofNat n))] [])) (fun _ kk => XS.pop X200.here hx rfl (hb hby dwr_15) rfl rfl kk) ?_
  exact own_retV X200 hx hlk hret (hb hby dwr_16) e200 ⟨rfl, F201, F203, Sc⟩ (by decide) (by decide)
theorem dco_0 : decode jdk_42_method_152_code 0 = .ok (.getstatic 38, 3) := by decide +kernel
theorem dco_3 : decode jdk_42_method_152_code 3 = .ok (.ifCond .eq 10, 3) := by decide +kernel
theorem dco_6 : decode jdk_42_method_152_code 6 = .ok (.aload_n 0, 1) := by decide +kernel
theorem dco_7 : decode jdk_42_method_152_code 7 = .ok (.getfield 15, 3) := by decide +kernel
theorem dco_10 : decode jdk_42_method_152_code 10 = .ok (.goto 4, 3) := by decide +kernel
theorem dco_13 : decode jdk_42_method_152_code 13 = .ok (.iconst 1, 1) := by decide +kernel
theorem dco_14 : decode jdk_42_method_152_code 14 = .ok (.ireturn, 1) := by decide +kernel
set_option maxRecDepth 65536 in
set_option maxHeartbeats 40000000 in
theorem rm_co (l : Launch) (Z : State) (a0 : Array Value) (hw : ∀ d ∈ tables_1, d.before a0 Z = true) (a1 : Addr) (cs : List Int32) (zc : Int32) (h0 : Heap) (O0 : Old Z Z.heap.size h0) (hstr : own_Str Z h0 a1 cs) (SC : Sta Z Z.heap "java/lang/String" "COMPACT_STRINGS" "Z" (.int zc)) (hzc : ¬ zc = (0 : Int32)) :
    own_Con l Z (⟨"java/lang/String", "coder", "()B"⟩ : MethodName) jdk_42_method_152_code 1 (some .byte) ({ frames := 0, cells := 0, slots := 0, locals := 0 } : Room) #[(.ref a1)] h0 (fun v h L => v = some (.int (0 : Int32)) ∧ Fr Z.heap.size L ∧ h = h0) := by
  refine own_con (ls := #[.val (.ref a1)]) (plainFor_of_name pn_java_lang_String) (fun m => by first | (simp [entryFrame, mkF, argsToLocals, Value.category]; done) | rfl) ?_
  intro p e s m below meth c s₁ hx hby hml0 hown0 hnm0 hret0 hlk hZ X0 e0
  have hml : c.maxLocals = 1 := hml0
  have hown : s.vm.findClass "java/lang/String" = some m.cls := hown0
  have hnm : meth.name = "coder" := hnm0
  have hret : meth.sig.returnType = (some .byte) := hret0
  have F204 := Fr.nil Z.heap.size
  have F205 := Keep.refl h0 []
  obtain ⟨st206, kb206, Es206, Cs206, Vs206, As206⟩ := hstr
  obtain ⟨T207, X207, e207, st207⟩ := getS (host := "") X0 hx hZ hown (w164 hw) Via.refl e0 (SC.ext O0.2) (g := (mkF m 0 #[.val (.ref a1)] [])) rfl (hb hby dco_0)
  refine own_step (T' := T207) (g' := (mkF m 3 #[.val (.ref a1)] [(.int zc)])) (fun _ kk => st207 _ kk) ?_
  refine own_step (T' := T207) (g' := (mkF m 6 #[.val (.ref a1)] [])) (fun _ kk => XS.ifNo X207.here hx rfl (hb hby dco_3) rfl ((if0 _ _).trans (feq hzc).1) kk) ?_
  refine own_step (T' := T207) (g' := (mkF m 7 #[.val (.ref a1)] [(.ref a1)])) (fun _ kk => XS.aloadN X207.here hx rfl (hb hby dco_6) rfl rfl kk) ?_
  obtain ⟨T208, X208, e208, st208⟩ := getF X207 hx hZ hown (host := "") (Or.inl (w125 hw)) Via.refl e207 Cs206 (g := (mkF m 7 #[.val (.ref a1)] [(.ref a1)])) rfl rfl (hb hby dco_7)
  refine own_step (T' := T208) (g' := (mkF m 10 #[.val (.ref a1)] [(.int (0 : Int32))])) (fun _ kk => st208 _ kk) ?_
  refine own_step (T' := T208) (g' := (mkF m 14 #[.val (.ref a1)] [(.int (0 : Int32))])) (fun _ kk => XS.goto X208.here hx rfl (pc0 := 10) (pc' := 14) rfl (hb hby dco_10) (by decide) (by decide) kk) ?_
  exact own_retN X208 hx hlk (t := .byte) hret (by simp) (hb hby dco_14) e208 ⟨rfl, F204, rfl⟩ (by decide) (by decide)
theorem dln_0 : decode jdk_42_method_54_code 0 = .ok (.aload_n 0, 1) := by decide +kernel
theorem dln_1 : decode jdk_42_method_54_code 1 = .ok (.getfield 9, 3) := by decide +kernel
theorem dln_4 : decode jdk_42_method_54_code 4 = .ok (.arraylength, 1) := by decide +kernel
theorem dln_5 : decode jdk_42_method_54_code 5 = .ok (.aload_n 0, 1) := by decide +kernel
theorem dln_6 : decode jdk_42_method_54_code 6 = .ok (.invokevirtual 335, 3) := by decide +kernel
theorem dln_9 : decode jdk_42_method_54_code 9 = .ok (.ishr, 1) := by decide +kernel
theorem dln_10 : decode jdk_42_method_54_code 10 = .ok (.ireturn, 1) := by decide +kernel
set_option maxRecDepth 65536 in
set_option maxHeartbeats 40000000 in
theorem rm_ln (l : Launch) (Z : State) (a0 : Array Value) (hw : ∀ d ∈ tables_1, d.before a0 Z = true) (a1 : Addr) (cs : List Int32) (zc : Int32) (h0 : Heap) (O0 : Old Z Z.heap.size h0) (hstr : own_Str Z h0 a1 cs) (SC : Sta Z Z.heap "java/lang/String" "COMPACT_STRINGS" "Z" (.int zc)) (hzc : ¬ zc = (0 : Int32)) :
    own_Con l Z (⟨"java/lang/String", "length", "()I"⟩ : MethodName) jdk_42_method_54_code 1 (some .int) ({ frames := 1, cells := 0, slots := 0, locals := 13 } : Room) #[(.ref a1)] h0 (fun v h L => v = some (.int (Int32.ofNat cs.length)) ∧ Fr Z.heap.size L ∧ h = h0) := by
  refine own_con (ls := #[.val (.ref a1)]) (plainFor_of_name pn_java_lang_String) (fun m => by first | (simp [entryFrame, mkF, argsToLocals, Value.category]; done) | rfl) ?_
  intro p e s m below meth c s₁ hx hby hml0 hown0 hnm0 hret0 hlk hZ X0 e0
  have hml : c.maxLocals = 1 := hml0
  have hown : s.vm.findClass "java/lang/String" = some m.cls := hown0
  have hnm : meth.name = "length" := hnm0
  have hret : meth.sig.returnType = (some .int) := hret0
  have F209 := Fr.nil Z.heap.size
  have F210 := Keep.refl h0 []
  have hs0 := hstr
  obtain ⟨st211, kb211, Es211, Cs211, Vs211, As211⟩ := hstr
  refine own_step (T' := s₁) (g' := (mkF m 1 #[.val (.ref a1)] [(.ref a1)])) (fun _ kk => XS.aloadN X0.here hx rfl (hb hby dln_0) rfl rfl kk) ?_
  obtain ⟨T212, X212, e212, st212⟩ := getF X0 hx hZ hown (host := "") (Or.inl (w145 hw)) Via.refl e0 Vs211 (g := (mkF m 1 #[.val (.ref a1)] [(.ref a1)])) rfl rfl (hb hby dln_1)
  refine own_step (T' := T212) (g' := (mkF m 4 #[.val (.ref a1)] [(.ref st211)])) (fun _ kk => st212 _ kk) ?_
  refine own_step (T' := T212) (g' := (mkF m 5 #[.val (.ref a1)] [(.int (Int32.ofNat cs.length))])) (fun _ kk => own_alen X212 hx hZ e212 As211 (g := (mkF m 4 #[.val (.ref a1)] [(.ref st211)])) rfl rfl (hb hby dln_4) _ kk) ?_
  refine own_step (T' := T212) (g' := (mkF m 6 #[.val (.ref a1)] [(.ref a1), (.int (Int32.ofNat cs.length))])) (fun _ kk => XS.aloadN X212.here hx rfl (hb hby dln_5) rfl rfl kk) ?_
  obtain ⟨T214, L214, _, h214, X214, e214, ⟨rfl, Nq213, eh213⟩, st214⟩ := own_callV X212 hx hZ hown (w159 hw) (w160 hw) (w162 hw) (w161 hw) (w163 hw) (w36 hw) (by decide) Es211 (g := (mkF m 6 #[.val (.ref a1)] [(.ref a1), (.int (Int32.ofNat cs.length))])) rfl (by rw [hml]; rfl) (argsL := []) (rest := [(.int (Int32.ofNat cs.length))]) (rm_co l Z a0 hw a1 cs zc _ O0 hs0 SC hzc) e212 pd___B rfl rfl (W := 1) (by show 2 * 0 + _ ≤ _; first | exact Nat.le_of_eq rfl | simp [own_cref own_of_ref]) (hb hby dln_6) (by decide) (by decide) (by decide) (by decide)
  have F215 := Fr.app F209 Nq213
  have F216 := e214.trans eh213
  refine own_step (T' := T214) (g' := (mkF m 9 #[.val (.ref a1)] [(.int (0 : Int32)), (.int (Int32.ofNat cs.length))])) (fun _ kk => st214 _ kk) ?_
  refine own_step (T' := T214) (g' := (mkF m 10 #[.val (.ref a1)] [(.int ((Int32.ofNat cs.length) >>> ((0 : Int32) &&& 31)))])) (fun _ kk => XS.ishr X214.here hx rfl (hb hby dln_9) rfl kk) ?_
  rw [own_shr0]
  exact own_retI X214 hx hlk hret (hb hby dln_10) F216 ⟨rfl, F215, rfl⟩ (by decide) (by decide)
theorem dl1_0 : decode jdk_42_method_154_code 0 = .ok (.getstatic 38, 3) := by decide +kernel
theorem dl1_3 : decode jdk_42_method_154_code 3 = .ok (.ifCond .eq 14, 3) := by decide +kernel
theorem dl1_6 : decode jdk_42_method_154_code 6 = .ok (.aload_n 0, 1) := by decide +kernel
theorem dl1_7 : decode jdk_42_method_154_code 7 = .ok (.getfield 15, 3) := by decide +kernel
theorem dl1_10 : decode jdk_42_method_154_code 10 = .ok (.ifCond .ne 7, 3) := by decide +kernel
theorem dl1_13 : decode jdk_42_method_154_code 13 = .ok (.iconst 1, 1) := by decide +kernel
theorem dl1_14 : decode jdk_42_method_154_code 14 = .ok (.goto 4, 3) := by decide +kernel
theorem dl1_17 : decode jdk_42_method_154_code 17 = .ok (.iconst 0, 1) := by decide +kernel
theorem dl1_18 : decode jdk_42_method_154_code 18 = .ok (.ireturn, 1) := by decide +kernel
set_option maxRecDepth 65536 in
set_option maxHeartbeats 40000000 in
theorem rm_l1 (l : Launch) (Z : State) (a0 : Array Value) (hw : ∀ d ∈ tables_1, d.before a0 Z = true) (a1 : Addr) (cs : List Int32) (zc : Int32) (h0 : Heap) (O0 : Old Z Z.heap.size h0) (hstr : own_Str Z h0 a1 cs) (SC : Sta Z Z.heap "java/lang/String" "COMPACT_STRINGS" "Z" (.int zc)) (hzc : ¬ zc = (0 : Int32)) :
    own_Con l Z (⟨"java/lang/String", "isLatin1", "()Z"⟩ : MethodName) jdk_42_method_154_code 1 (some .boolean) ({ frames := 0, cells := 0, slots := 0, locals := 0 } : Room) #[(.ref a1)] h0 (fun v h L => v = some (.int (1 : Int32)) ∧ Fr Z.heap.size L ∧ h = h0) := by
  refine own_con (ls := #[.val (.ref a1)]) (plainFor_of_name pn_java_lang_String) (fun m => by first | (simp [entryFrame, mkF, argsToLocals, Value.category]; done) | rfl) ?_
  intro p e s m below meth c s₁ hx hby hml0 hown0 hnm0 hret0 hlk hZ X0 e0
  have hml : c.maxLocals = 1 := hml0
  have hown : s.vm.findClass "java/lang/String" = some m.cls := hown0
  have hnm : meth.name = "isLatin1" := hnm0
  have hret : meth.sig.returnType = (some .boolean) := hret0
  have F217 := Fr.nil Z.heap.size
  have F218 := Keep.refl h0 []
  obtain ⟨st219, kb219, Es219, Cs219, Vs219, As219⟩ := hstr
  obtain ⟨T220, X220, e220, st220⟩ := getS (host := "") X0 hx hZ hown (w164 hw) Via.refl e0 (SC.ext O0.2) (g := (mkF m 0 #[.val (.ref a1)] [])) rfl (hb hby dl1_0)
  refine own_step (T' := T220) (g' := (mkF m 3 #[.val (.ref a1)] [(.int zc)])) (fun _ kk => st220 _ kk) ?_
  refine own_step (T' := T220) (g' := (mkF m 6 #[.val (.ref a1)] [])) (fun _ kk => XS.ifNo X220.here hx rfl (hb hby dl1_3) rfl ((if0 _ _).trans (feq hzc).1) kk) ?_
  refine own_step (T' := T220) (g' := (mkF m 7 #[.val (.ref a1)] [(.ref a1)])) (fun _ kk => XS.aloadN X220.here hx rfl (hb hby dl1_6) rfl rfl kk) ?_
  obtain ⟨T221, X221, e221, st221⟩ := getF X220 hx hZ hown (host := "") (Or.inl (w125 hw)) Via.refl e220 Cs219 (g := (mkF m 7 #[.val (.ref a1)] [(.ref a1)])) rfl rfl (hb hby dl1_7)
  refine own_step (T' := T221) (g' := (mkF m 10 #[.val (.ref a1)] [(.int (0 : Int32))])) (fun _ kk => st221 _ kk) ?_
  refine own_step (T' := T221) (g' := (mkF m 13 #[.val (.ref a1)] [])) (fun _ kk => XS.ifNo X221.here hx rfl (hb hby dl1_10) rfl ((if0 _ _).trans (teq rfl).2) kk) ?_
  refine own_step (T' := T221) (g' := (mkF m 14 #[.val (.ref a1)] [(.int (1 : Int32))])) (fun _ kk => XS.iconst X221.here hx rfl (hb hby dl1_13) kk) ?_
  refine own_step (T' := T221) (g' := (mkF m 18 #[.val (.ref a1)] [(.int (1 : Int32))])) (fun _ kk => XS.goto X221.here hx rfl (pc0 := 14) (pc' := 18) rfl (hb hby dl1_14) (by decide) (by decide) kk) ?_
  exact own_retN X221 hx hlk (t := .boolean) hret (by simp) (hb hby dl1_18) e221 ⟨rfl, F217, rfl⟩ (by decide) (by decide)
theorem dci_0 : decode jdk_41_method_11_code 0 = .ok (.iload_n 0, 1) := by decide +kernel
theorem dci_1 : decode jdk_41_method_11_code 1 = .ok (.ifCond .lt 8, 3) := by decide +kernel
theorem dci_4 : decode jdk_41_method_11_code 4 = .ok (.iload_n 0, 1) := by decide +kernel
theorem dci_5 : decode jdk_41_method_11_code 5 = .ok (.iload_n 1, 1) := by decide +kernel
theorem dci_6 : decode jdk_41_method_11_code 6 = .ok (.if_icmp .lt 10, 3) := by decide +kernel
theorem dci_9 : decode jdk_41_method_11_code 9 = .ok (.aload_n 2, 1) := by decide +kernel
theorem dci_10 : decode jdk_41_method_11_code 10 = .ok (.iload_n 0, 1) := by decide +kernel
theorem dci_11 : decode jdk_41_method_11_code 11 = .ok (.iload_n 1, 1) := by decide +kernel
theorem dci_12 : decode jdk_41_method_11_code 12 = .ok (.invokestatic 95, 3) := by decide +kernel
theorem dci_15 : decode jdk_41_method_11_code 15 = .ok (.athrow, 1) := by decide +kernel
theorem dci_16 : decode jdk_41_method_11_code 16 = .ok (.iload_n 0, 1) := by decide +kernel
theorem dci_17 : decode jdk_41_method_11_code 17 = .ok (.ireturn, 1) := by decide +kernel
set_option maxRecDepth 65536 in
set_option maxHeartbeats 40000000 in
theorem rm_ci (l : Launch) (Z : State) (a0 : Array Value) (hw : ∀ d ∈ tables_1, d.before a0 Z = true) (p0 p1 : Int32) (fm : Value) (rfm : fm.isRef = true) (h0 : Heap) (O0 : Old Z Z.heap.size h0) (h1 : ¬ p0 < 0) (h2 : p0 < p1) :
    own_Con l Z (⟨"jdk/internal/util/Preconditions", "checkIndex", "(IILjava/util/function/BiFunction;)I"⟩ : MethodName) jdk_41_method_11_code 3 (some .int) ({ frames := 0, cells := 0, slots := 0, locals := 0 } : Room) #[(.int p0), (.int p1), fm] h0 (fun v h L => v = some (.int p0) ∧ Fr Z.heap.size L ∧ h = h0) := by
  refine own_con (ls := #[.val (.int p0), .val (.int p1), .val fm]) (plainFor_of_name pn_jdk_internal_util_Preconditions) (fun m => by rcases ref_cases rfm with rfl | ⟨_, rfl⟩ <;> (simp [entryFrame, mkF, argsToLocals, Value.category])) ?_
  intro p e s m below meth c s₁ hx hby hml0 hown0 hnm0 hret0 hlk hZ X0 e0
  have hml : c.maxLocals = 3 := hml0
  have hown : s.vm.findClass "jdk/internal/util/Preconditions" = some m.cls := hown0
  have hnm : meth.name = "checkIndex" := hnm0
  have hret : meth.sig.returnType = (some .int) := hret0
  have F222 := Fr.nil Z.heap.size
  have F223 := Keep.refl h0 []
  refine own_step (T' := s₁) (g' := (mkF m 1 #[.val (.int p0), .val (.int p1), .val fm] [(.int p0)])) (fun _ kk => XS.iloadN X0.here hx rfl (hb hby dci_0) rfl kk) ?_
  refine own_step (T' := s₁) (g' := (mkF m 4 #[.val (.int p0), .val (.int p1), .val fm] [])) (fun _ kk => XS.ifNo X0.here hx rfl (hb hby dci_1) rfl ((if0 _ _).trans (flt h1).1) kk) ?_
  refine own_step (T' := s₁) (g' := (mkF m 5 #[.val (.int p0), .val (.int p1), .val fm] [(.int p0)])) (fun _ kk => XS.iloadN X0.here hx rfl (hb hby dci_4) rfl kk) ?_
  refine own_step (T' := s₁) (g' := (mkF m 6 #[.val (.int p0), .val (.int p1), .val fm] [(.int p1), (.int p0)])) (fun _ kk => XS.iloadN X0.here hx rfl (hb hby dci_5) rfl kk) ?_
  refine own_step (T' := s₁) (g' := (mkF m 16 #[.val (.int p0), .val (.int p1), .val fm] [])) (fun _ kk => XS.icmpYes X0.here hx rfl (pc0 := 6) (pc' := 16) rfl (hb hby dci_6) rfl (tlt h2).1 (by decide) (by decide) kk) ?_
  refine own_step (T' := s₁) (g' := (mkF m 17 #[.val (.int p0), .val (.int p1), .val fm] [(.int p0)])) (fun _ kk => XS.iloadN X0.here hx rfl (hb hby dci_16) rfl kk) ?_
  exact own_retI X0 hx hlk hret (hb hby dci_17) e0 ⟨rfl, F222, rfl⟩ (by decide) (by decide)
theorem dck_0 : decode jdk_42_method_155_code 0 = .ok (.iload_n 0, 1) := by decide +kernel
theorem dck_1 : decode jdk_42_method_155_code 1 = .ok (.iload_n 1, 1) := by decide +kernel
theorem dck_2 : decode jdk_42_method_155_code 2 = .ok (.getstatic 1053, 3) := by decide +kernel
theorem dck_5 : decode jdk_42_method_155_code 5 = .ok (.invokestatic 1059, 3) := by decide +kernel
theorem dck_8 : decode jdk_42_method_155_code 8 = .ok (.pop, 1) := by decide +kernel
theorem dck_9 : decode jdk_42_method_155_code 9 = .ok (.return_, 1) := by decide +kernel
set_option maxRecDepth 65536 in
set_option maxHeartbeats 40000000 in
theorem rm_ck (l : Launch) (Z : State) (a0 : Array Value) (hw : ∀ d ∈ tables_1, d.before a0 Z = true) (p0 p1 : Int32) (fm : Value) (h0 : Heap) (O0 : Old Z Z.heap.size h0) (h1 : ¬ p0 < 0) (h2 : p0 < p1) (SI : Sta Z Z.heap "jdk/internal/util/Preconditions" "SIOOBE_FORMATTER" "Ljava/util/function/BiFunction;" fm) (rfm : fm.isRef = true) :
    own_Con l Z (⟨"java/lang/String", "checkIndex", "(II)V"⟩ : MethodName) jdk_42_method_155_code 2 none ({ frames := 1, cells := 0, slots := 0, locals := 14 } : Room) #[(.int p0), (.int p1)] h0 (fun v h L => v = none ∧ Fr Z.heap.size L ∧ h = h0) := by
  refine own_con (ls := #[.val (.int p0), .val (.int p1)]) (plainFor_of_name pn_java_lang_String) (fun m => by first | (simp [entryFrame, mkF, argsToLocals, Value.category]; done) | rfl) ?_
  intro p e s m below meth c s₁ hx hby hml0 hown0 hnm0 hret0 hlk hZ X0 e0
  have hml : c.maxLocals = 2 := hml0
  have hown : s.vm.findClass "java/lang/String" = some m.cls := hown0
  have hnm : meth.name = "checkIndex" := hnm0
  have hret : meth.sig.returnType = none := hret0
  have F224 := Fr.nil Z.heap.size
  have F225 := Keep.refl h0 []
  refine own_step (T' := s₁) (g' := (mkF m 1 #[.val (.int p0), .val (.int p1)] [(.int p0)])) (fun _ kk => XS.iloadN X0.here hx rfl (hb hby dck_0) rfl kk) ?_
  refine own_step (T' := s₁) (g' := (mkF m 2 #[.val (.int p0), .val (.int p1)] [(.int p1), (.int p0)])) (fun _ kk => XS.iloadN X0.here hx rfl (hb hby dck_1) rfl kk) ?_
  obtain ⟨T226, X226, e226, st226⟩ := getS (host := "") X0 hx hZ hown (w223 hw) Via.refl e0 (SI.ext O0.2) (g := (mkF m 2 #[.val (.int p0), .val (.int p1)] [(.int p1), (.int p0)])) rfl (hb hby dck_2)
  refine own_step (T' := T226) (g' := (mkF m 5 #[.val (.int p0), .val (.int p1)] [fm, (.int p1), (.int p0)])) (fun _ kk => st226 _ kk) ?_
  obtain ⟨T228, L228, _, h228, X228, e228, ⟨rfl, Nq227, eh227⟩, st228⟩ := own_callS X226 hx hZ hown (w224 hw) (w225 hw) (w226 hw) (w77 hw) (by decide) (g := (mkF m 5 #[.val (.int p0), .val (.int p1)] [fm, (.int p1), (.int p0)])) rfl (by rw [hml]; rfl) (argsL := [(.int p0), (.int p1), fm]) (rest := []) (rm_ci l Z a0 hw p0 p1 fm rfm _ O0 h1 h2) e226 pd__IILjava_util_function_BiFunction__I rfl rfl (W := 0) (by show 2 * 0 + _ ≤ _; first | exact Nat.le_of_eq rfl | simp [own_cref own_of_ref]) (hb hby dck_5) (by decide) (by decide) (by decide) (by decide)
  have F229 := Fr.app F224 Nq227
  have F230 := e228.trans eh227
  refine own_step (T' := T228) (g' := (mkF m 8 #[.val (.int p0), .val (.int p1)] [(.int p0)])) (fun _ kk => st228 _ kk) ?_
  refine own_step (T' := T228) (g' := (mkF m 9 #[.val (.int p0), .val (.int p1)] [])) (fun _ kk => XS.pop X228.here hx rfl (hb hby dck_8) rfl rfl kk) ?_
  exact own_retV X228 hx hlk hret (hb hby dck_9) F230 ⟨rfl, F229, rfl⟩ (by decide) (by decide)
theorem dlc_0 : decode jdk_43_method_2_code 0 = .ok (.iload_n 1, 1) := by decide +kernel
theorem dlc_1 : decode jdk_43_method_2_code 1 = .ok (.aload_n 0, 1) := by decide +kernel
theorem dlc_2 : decode jdk_43_method_2_code 2 = .ok (.arraylength, 1) := by decide +kernel
theorem dlc_3 : decode jdk_43_method_2_code 3 = .ok (.invokestatic 9, 3) := by decide +kernel
theorem dlc_6 : decode jdk_43_method_2_code 6 = .ok (.aload_n 0, 1) := by decide +kernel
theorem dlc_7 : decode jdk_43_method_2_code 7 = .ok (.iload_n 1, 1) := by decide +kernel
theorem dlc_8 : decode jdk_43_method_2_code 8 = .ok (.baload, 1) := by decide +kernel
theorem dlc_9 : decode jdk_43_method_2_code 9 = .ok (.sipush 255, 3) := by decide +kernel
theorem dlc_12 : decode jdk_43_method_2_code 12 = .ok (.iand, 1) := by decide +kernel
theorem dlc_13 : decode jdk_43_method_2_code 13 = .ok (.i2c, 1) := by decide +kernel
theorem dlc_14 : decode jdk_43_method_2_code 14 = .ok (.ireturn, 1) := by decide +kernel
set_option maxRecDepth 65536 in
set_option maxHeartbeats 40000000 in
theorem rm_lc (l : Launch) (Z : State) (a0 : Array Value) (hw : ∀ d ∈ tables_1, d.before a0 Z = true) (t1 : Addr) (kt : ClassId) (cs : List Int32) (i : Nat) (fm : Value) (h0 : Heap) (O0 : Old Z Z.heap.size h0) (hA : Arv Z h0 t1 kt .byte (Int32.ofNat cs.length) ((cs.map own_l8).map Value.int) (.int 0)) (hB : own_Bt cs) (hl : cs.length ≤ 4000) (hi : i < cs.length) (SI : Sta Z Z.heap "jdk/internal/util/Preconditions" "SIOOBE_FORMATTER" "Ljava/util/function/BiFunction;" fm) (rfm : fm.isRef = true) :
    own_Con l Z (⟨"java/lang/StringLatin1", "charAt", "([BI)C"⟩ : MethodName) jdk_43_method_2_code 2 (some .char) ({ frames := 2, cells := 0, slots := 0, locals := 27 } : Room) #[(.ref t1), (.int (Int32.ofNat i))] h0 (fun v h L => v = some (.int (cs.getD i 0)) ∧ Fr Z.heap.size L ∧ h = h0) := by
  refine own_con (ls := #[.val (.ref t1), .val (.int (Int32.ofNat i))]) (plainFor_of_name pn_java_lang_StringLatin1) (fun m => by first | (simp [entryFrame, mkF, argsToLocals, Value.category]; done) | rfl) ?_
  intro p e s m below meth c s₁ hx hby hml0 hown0 hnm0 hret0 hlk hZ X0 e0
  have hml : c.maxLocals = 2 := hml0
  have hown : s.vm.findClass "java/lang/StringLatin1" = some m.cls := hown0
  have hnm : meth.name = "charAt" := hnm0
  have hret : meth.sig.returnType = (some .char) := hret0
  have F231 := Fr.nil Z.heap.size
  have F232 := Keep.refl h0 []
  have hin : ¬ Int32.ofNat i < 0 ∧ Int32.ofNat i < Int32.ofNat cs.length := ⟨own_nneg (by rw [Int32.toInt_ofNat_of_lt (by omega)]; omega), own_ltn (by omega) (by omega)⟩
  refine own_step (T' := s₁) (g' := (mkF m 1 #[.val (.ref t1), .val (.int (Int32.ofNat i))] [(.int (Int32.ofNat i))])) (fun _ kk => XS.iloadN X0.here hx rfl (hb hby dlc_0) rfl kk) ?_
  refine own_step (T' := s₁) (g' := (mkF m 2 #[.val (.ref t1), .val (.int (Int32.ofNat i))] [(.ref t1), (.int (Int32.ofNat i))])) (fun _ kk => XS.aloadN X0.here hx rfl (hb hby dlc_1) rfl rfl kk) ?_
  refine own_step (T' := s₁) (g' := (mkF m 3 #[.val (.ref t1), .val (.int (Int32.ofNat i))] [(.int (Int32.ofNat cs.length)), (.int (Int32.ofNat i))])) (fun _ kk => own_alen X0 hx hZ e0 hA (g := (mkF m 2 #[.val (.ref t1), .val (.int (Int32.ofNat i))] [(.ref t1), (.int (Int32.ofNat i))])) rfl rfl (hb hby dlc_2) _ kk) ?_
  obtain ⟨T234, L234, _, h234, X234, e234, ⟨rfl, Nq233, eh233⟩, st234⟩ := own_callS X0 hx hZ hown (w220 hw) (w221 hw) (w222 hw) (w36 hw) (by decide) (g := (mkF m 3 #[.val (.ref t1), .val (.int (Int32.ofNat i))] [(.int (Int32.ofNat cs.length)), (.int (Int32.ofNat i))])) rfl (by rw [hml]; rfl) (argsL := [(.int (Int32.ofNat i)), (.int (Int32.ofNat cs.length))]) (rest := []) (rm_ck l Z a0 hw (Int32.ofNat i) (Int32.ofNat cs.length) fm _ O0 hin.1 hin.2 SI rfm) e0 pd__II_V rfl rfl (W := 0) (by show 2 * 0 + _ ≤ _; first | exact Nat.le_of_eq rfl | simp [own_cref own_of_ref]) (hb hby dlc_3) (by decide) (by decide) (by decide) (by decide)
  have F235 := Fr.app F231 Nq233
  have F236 := e234.trans eh233
  refine own_step (T' := T234) (g' := (mkF m 6 #[.val (.ref t1), .val (.int (Int32.ofNat i))] [])) (fun _ kk => st234 _ kk) ?_
  refine own_step (T' := T234) (g' := (mkF m 7 #[.val (.ref t1), .val (.int (Int32.ofNat i))] [(.ref t1)])) (fun _ kk => XS.aloadN X234.here hx rfl (hb hby dlc_6) rfl rfl kk) ?_
  refine own_step (T' := T234) (g' := (mkF m 8 #[.val (.ref t1), .val (.int (Int32.ofNat i))] [(.int (Int32.ofNat i)), (.ref t1)])) (fun _ kk => XS.iloadN X234.here hx rfl (hb hby dlc_7) rfl kk) ?_
  refine own_step (T' := T234) (g' := (mkF m 9 #[.val (.ref t1), .val (.int (Int32.ofNat i))] [(.int (own_l8 (cs.getD i 0)))])) (fun _ kk => own_baload X234 hx hZ F236 hA hin (own_l8at (by omega) hi) (g := (mkF m 8 #[.val (.ref t1), .val (.int (Int32.ofNat i))] [(.int (Int32.ofNat i)), (.ref t1)])) rfl rfl (hb hby dlc_8) _ kk) ?_
  refine own_step (T' := T234) (g' := (mkF m 12 #[.val (.ref t1), .val (.int (Int32.ofNat i))] [(.int (255 : Int32)), (.int (own_l8 (cs.getD i 0)))])) (fun _ kk => XS.sipush X234.here hx rfl (hb hby dlc_9) kk) ?_
  refine own_step (T' := T234) (g' := (mkF m 13 #[.val (.ref t1), .val (.int (Int32.ofNat i))] [(.int ((own_l8 (cs.getD i 0)) &&& (255 : Int32)))])) (fun _ kk => XS.iand X234.here hx rfl (hb hby dlc_12) rfl kk) ?_
  refine own_step (T' := T234) (g' := (mkF m 14 #[.val (.ref t1), .val (.int (Int32.ofNat i))] [(.int (((own_l8 (cs.getD i 0)) &&& (255 : Int32)).toUInt32.toUInt16.toUInt32.toInt32))])) (fun _ kk => XS.i2c X234.here hx rfl (hb hby dlc_13) rfl kk) ?_
  exact own_retN X234 hx hlk (t := .char) hret (by simp) (hb hby dlc_14) F236 ⟨by rw [(own_latc (hB.at hi)).1], F235, rfl⟩ (by decide) (by decide)
theorem dch_0 : decode jdk_42_method_56_code 0 = .ok (.aload_n 0, 1) := by decide +kernel
theorem dch_1 : decode jdk_42_method_56_code 1 = .ok (.invokevirtual 492, 3) := by decide +kernel
theorem dch_4 : decode jdk_42_method_56_code 4 = .ok (.ifCond .eq 12, 3) := by decide +kernel
theorem dch_7 : decode jdk_42_method_56_code 7 = .ok (.aload_n 0, 1) := by decide +kernel
theorem dch_8 : decode jdk_42_method_56_code 8 = .ok (.getfield 9, 3) := by decide +kernel
theorem dch_11 : decode jdk_42_method_56_code 11 = .ok (.iload_n 1, 1) := by decide +kernel
theorem dch_12 : decode jdk_42_method_56_code 12 = .ok (.invokestatic 495, 3) := by decide +kernel
theorem dch_15 : decode jdk_42_method_56_code 15 = .ok (.ireturn, 1) := by decide +kernel
theorem dch_16 : decode jdk_42_method_56_code 16 = .ok (.aload_n 0, 1) := by decide +kernel
theorem dch_17 : decode jdk_42_method_56_code 17 = .ok (.getfield 9, 3) := by decide +kernel
theorem dch_20 : decode jdk_42_method_56_code 20 = .ok (.iload_n 1, 1) := by decide +kernel
theorem dch_21 : decode jdk_42_method_56_code 21 = .ok (.invokestatic 498, 3) := by decide +kernel
theorem dch_24 : decode jdk_42_method_56_code 24 = .ok (.ireturn, 1) := by decide +kernel
set_option maxRecDepth 65536 in
set_option maxHeartbeats 40000000 in
theorem rm_ch (l : Launch) (Z : State) (a0 : Array Value) (hw : ∀ d ∈ tables_1, d.before a0 Z = true) (a1 : Addr) (cs : List Int32) (zc : Int32) (i : Nat) (fm : Value) (h0 : Heap) (O0 : Old Z Z.heap.size h0) (hstr : own_Str Z h0 a1 cs) (hB : own_Bt cs) (hl : cs.length ≤ 4000) (hi : i < cs.length) (SC : Sta Z Z.heap "java/lang/String" "COMPACT_STRINGS" "Z" (.int zc)) (hzc : ¬ zc = (0 : Int32)) (SI : Sta Z Z.heap "jdk/internal/util/Preconditions" "SIOOBE_FORMATTER" "Ljava/util/function/BiFunction;" fm) (rfm : fm.isRef = true) :
    own_Con l Z (⟨"java/lang/String", "charAt", "(I)C"⟩ : MethodName) jdk_42_method_56_code 2 (some .char) ({ frames := 3, cells := 0, slots := 0, locals := 40 } : Room) #[(.ref a1), (.int (Int32.ofNat i))] h0 (fun v h L => v = some (.int (cs.getD i 0)) ∧ Fr Z.heap.size L ∧ h = h0) := by
  refine own_con (ls := #[.val (.ref a1), .val (.int (Int32.ofNat i))]) (plainFor_of_name pn_java_lang_String) (fun m => by first | (simp [entryFrame, mkF, argsToLocals, Value.category]; done) | rfl) ?_
  intro p e s m below meth c s₁ hx hby hml0 hown0 hnm0 hret0 hlk hZ X0 e0
  have hml : c.maxLocals = 2 := hml0
  have hown : s.vm.findClass "java/lang/String" = some m.cls := hown0
  have hnm : meth.name = "charAt" := hnm0
  have hret : meth.sig.returnType = (some .char) := hret0
  have F237 := Fr.nil Z.heap.size
  have F238 := Keep.refl h0 []
  have hs0 := hstr
  obtain ⟨st239, kb239, Es239, Cs239, Vs239, As239⟩ := hstr
  refine own_step (T' := s₁) (g' := (mkF m 1 #[.val (.ref a1), .val (.int (Int32.ofNat i))] [(.ref a1)])) (fun _ kk => XS.aloadN X0.here hx rfl (hb hby dch_0) rfl rfl kk) ?_
  obtain ⟨T241, L241, _, h241, X241, e241, ⟨rfl, Nq240, eh240⟩, st241⟩ := own_callV X0 hx hZ hown (w212 hw) (w213 hw) (w215 hw) (w214 hw) (w216 hw) (w36 hw) (by decide) Es239 (g := (mkF m 1 #[.val (.ref a1), .val (.int (Int32.ofNat i))] [(.ref a1)])) rfl (by rw [hml]; rfl) (argsL := []) (rest := []) (rm_l1 l Z a0 hw a1 cs zc _ O0 hs0 SC hzc) e0 pd___Z rfl rfl (W := 0) (by show 2 * 0 + _ ≤ _; first | exact Nat.le_of_eq rfl | simp [own_cref own_of_ref]) (hb hby dch_1) (by decide) (by decide) (by decide) (by decide)
  have F242 := Fr.app F237 Nq240
  have F243 := e241.trans eh240
  refine own_step (T' := T241) (g' := (mkF m 4 #[.val (.ref a1), .val (.int (Int32.ofNat i))] [(.int (1 : Int32))])) (fun _ kk => st241 _ kk) ?_
  refine own_step (T' := T241) (g' := (mkF m 7 #[.val (.ref a1), .val (.int (Int32.ofNat i))] [])) (fun _ kk => XS.ifNo X241.here hx rfl (hb hby dch_4) rfl ((if0 _ _).trans (feq (by decide)).1) kk) ?_
  refine own_step (T' := T241) (g' := (mkF m 8 #[.val (.ref a1), .val (.int (Int32.ofNat i))] [(.ref a1)])) (fun _ kk => XS.aloadN X241.here hx rfl (hb hby dch_7) rfl rfl kk) ?_
  obtain ⟨T244, X244, e244, st244⟩ := getF X241 hx hZ hown (host := "") (Or.inl (w145 hw)) Via.refl F243 Vs239 (g := (mkF m 8 #[.val (.ref a1), .val (.int (Int32.ofNat i))] [(.ref a1)])) rfl rfl (hb hby dch_8)
  refine own_step (T' := T244) (g' := (mkF m 11 #[.val (.ref a1), .val (.int (Int32.ofNat i))] [(.ref st239)])) (fun _ kk => st244 _ kk) ?_
  refine own_step (T' := T244) (g' := (mkF m 12 #[.val (.ref a1), .val (.int (Int32.ofNat i))] [(.int (Int32.ofNat i)), (.ref st239)])) (fun _ kk => XS.iloadN X244.here hx rfl (hb hby dch_11) rfl kk) ?_
  obtain ⟨T246, L246, _, h246, X246, e246, ⟨rfl, Nq245, eh245⟩, st246⟩ := own_callS X244 hx hZ hown (w217 hw) (w218 hw) (w219 hw) (w202 hw) (by decide) (g := (mkF m 12 #[.val (.ref a1), .val (.int (Int32.ofNat i))] [(.int (Int32.ofNat i)), (.ref st239)])) rfl (by rw [hml]; rfl) (argsL := [(.ref st239), (.int (Int32.ofNat i))]) (rest := []) (rm_lc l Z a0 hw st239 kb239 cs i fm _ O0 As239 hB hl hi SI rfm) e244 pd___BI_C rfl rfl (W := 0) (by show 2 * 0 + _ ≤ _; first | exact Nat.le_of_eq rfl | simp [own_cref own_of_ref]) (hb hby dch_12) (by decide) (by decide) (by decide) (by decide)
  have F247 := Fr.app F242 Nq245
  have F248 := e246.trans eh245
  refine own_step (T' := T246) (g' := (mkF m 15 #[.val (.ref a1), .val (.int (Int32.ofNat i))] [(.int (cs.getD i 0))])) (fun _ kk => st246 _ kk) ?_
  exact own_retN X246 hx hlk (t := .char) hret (by simp) (hb hby dch_15) F248 ⟨by rw [(own_latc (hB.at hi)).2], F247, rfl⟩ (by decide) (by decide)
theorem dgv_0 : decode jdk_68_method_64_code 0 = .ok (.aload_n 0, 1) := by decide +kernel
theorem dgv_1 : decode jdk_68_method_64_code 1 = .ok (.getfield 15, 3) := by decide +kernel
theorem dgv_4 : decode jdk_68_method_64_code 4 = .ok (.areturn, 1) := by decide +kernel
set_option maxRecDepth 65536 in
set_option maxHeartbeats 40000000 in
theorem rm_gv (l : Launch) (Z : State) (a0 : Array Value) (hw : ∀ d ∈ tables_1, d.before a0 Z = true) (a1 b : Addr) (kb : ClassId) (ds : List Int32) (h0 : Heap) (O0 : Old Z Z.heap.size h0) (hsb : own_SB Z h0 a1 b kb ds) :
    own_Con l Z (⟨"java/lang/AbstractStringBuilder", "getValue", "()[B"⟩ : MethodName) jdk_68_method_64_code 1 (some (.array .byte)) ({ frames := 0, cells := 0, slots := 0, locals := 0 } : Room) #[(.ref a1)] h0 (fun v h L => v = some (.ref b) ∧ Fr Z.heap.size L ∧ h = h0) := by
  refine own_con (ls := #[.val (.ref a1)]) (plainFor_of_name pn_java_lang_AbstractStringBuilder) (fun m => by first | (simp [entryFrame, mkF, argsToLocals, Value.category]; done) | rfl) ?_
  intro p e s m below meth c s₁ hx hby hml0 hown0 hnm0 hret0 hlk hZ X0 e0
  have hml : c.maxLocals = 1 := hml0
  have hown : s.vm.findClass "java/lang/AbstractStringBuilder" = some m.cls := hown0
  have hnm : meth.name = "getValue" := hnm0
  have hret : meth.sig.returnType = (some (.array .byte)) := hret0
  have F249 := Fr.nil Z.heap.size
  have F250 := Keep.refl h0 []
  obtain ⟨OB251, FV251, FC251, FN251, AB251⟩ := id hsb
  refine own_step (T' := s₁) (g' := (mkF m 1 #[.val (.ref a1)] [(.ref a1)])) (fun _ kk => XS.aloadN X0.here hx rfl (hb hby dgv_0) rfl rfl kk) ?_
  obtain ⟨T252, X252, e252, st252⟩ := getF X0 hx hZ hown (host := "") (Or.inl (w38 hw)) Via.refl e0 FV251 (g := (mkF m 1 #[.val (.ref a1)] [(.ref a1)])) rfl rfl (hb hby dgv_1)
  refine own_step (T' := T252) (g' := (mkF m 4 #[.val (.ref a1)] [(.ref b)])) (fun _ kk => st252 _ kk) ?_
  exact own_retA X252 hx hlk (t := (.array .byte)) hret rfl rfl rfl (hb hby dgv_4) e252 ⟨rfl, F249, rfl⟩ (by decide) (by decide)
theorem dmi_0 : decode jdk_29_method_69_code 0 = .ok (.iload_n 0, 1) := by decide +kernel
theorem dmi_1 : decode jdk_29_method_69_code 1 = .ok (.iload_n 1, 1) := by decide +kernel
theorem dmi_2 : decode jdk_29_method_69_code 2 = .ok (.if_icmp .gt 7, 3) := by decide +kernel
theorem dmi_5 : decode jdk_29_method_69_code 5 = .ok (.iload_n 0, 1) := by decide +kernel
theorem dmi_6 : decode jdk_29_method_69_code 6 = .ok (.goto 4, 3) := by decide +kernel
theorem dmi_9 : decode jdk_29_method_69_code 9 = .ok (.iload_n 1, 1) := by decide +kernel
theorem dmi_10 : decode jdk_29_method_69_code 10 = .ok (.ireturn, 1) := by decide +kernel
set_option maxRecDepth 65536 in
set_option maxHeartbeats 40000000 in
theorem rm_mi (l : Launch) (Z : State) (a0 : Array Value) (hw : ∀ d ∈ tables_1, d.before a0 Z = true) (p0 p1 : Int32) (h0 : Heap) (O0 : Old Z Z.heap.size h0) (hlt : p1 < p0) :
    own_Con l Z (⟨"java/lang/Math", "min", "(II)I"⟩ : MethodName) jdk_29_method_69_code 2 (some .int) ({ frames := 0, cells := 0, slots := 0, locals := 0 } : Room) #[(.int p0), (.int p1)] h0 (fun v h L => v = some (.int p1) ∧ Fr Z.heap.size L ∧ h = h0) := by
  refine own_con (ls := #[.val (.int p0), .val (.int p1)]) (Jvm.Free.JP.mathPlain rfl (by decide)) (fun m => by first | (simp [entryFrame, mkF, argsToLocals, Value.category]; done) | rfl) ?_
  intro p e s m below meth c s₁ hx hby hml0 hown0 hnm0 hret0 hlk hZ X0 e0
  have hml : c.maxLocals = 2 := hml0
  have hown : s.vm.findClass "java/lang/Math" = some m.cls := hown0
  have hnm : meth.name = "min" := hnm0
  have hret : meth.sig.returnType = (some .int) := hret0
  have F253 := Fr.nil Z.heap.size
  have F254 := Keep.refl h0 []
  refine own_step (T' := s₁) (g' := (mkF m 1 #[.val (.int p0), .val (.int p1)] [(.int p0)])) (fun _ kk => XS.iloadN X0.here hx rfl (hb hby dmi_0) rfl kk) ?_
  refine own_step (T' := s₁) (g' := (mkF m 2 #[.val (.int p0), .val (.int p1)] [(.int p1), (.int p0)])) (fun _ kk => XS.iloadN X0.here hx rfl (hb hby dmi_1) rfl kk) ?_
  refine own_step (T' := s₁) (g' := (mkF m 9 #[.val (.int p0), .val (.int p1)] [])) (fun _ kk => XS.icmpYes X0.here hx rfl (pc0 := 2) (pc' := 9) rfl (hb hby dmi_2) rfl (tlt hlt).2.2.1 (by decide) (by decide) kk) ?_
  refine own_step (T' := s₁) (g' := (mkF m 10 #[.val (.int p0), .val (.int p1)] [(.int p1)])) (fun _ kk => XS.iloadN X0.here hx rfl (hb hby dmi_9) rfl kk) ?_
  exact own_retI X0 hx hlk hret (hb hby dmi_10) e0 ⟨rfl, F253, rfl⟩ (by decide) (by decide)
theorem dcl_0 : decode jdk_65_method_131_code 0 = .ok (.iload_n 1, 1) := by decide +kernel
theorem dcl_1 : decode jdk_65_method_131_code 1 = .ok (.iload_n 0, 1) := by decide +kernel
theorem dcl_2 : decode jdk_65_method_131_code 2 = .ok (.if_icmp .ge 35, 3) := by decide +kernel
theorem dcl_5 : decode jdk_65_method_131_code 5 = .ok (.new 43, 3) := by decide +kernel
theorem dcl_8 : decode jdk_65_method_131_code 8 = .ok (.dup, 1) := by decide +kernel
theorem dcl_9 : decode jdk_65_method_131_code 9 = .ok (.new 45, 3) := by decide +kernel
theorem dcl_12 : decode jdk_65_method_131_code 12 = .ok (.dup, 1) := by decide +kernel
theorem dcl_13 : decode jdk_65_method_131_code 13 = .ok (.invokespecial 47, 3) := by decide +kernel
theorem dcl_16 : decode jdk_65_method_131_code 16 = .ok (.iload_n 0, 1) := by decide +kernel
theorem dcl_17 : decode jdk_65_method_131_code 17 = .ok (.invokevirtual 54, 3) := by decide +kernel
theorem dcl_20 : decode jdk_65_method_131_code 20 = .ok (.ldc_w 337, 3) := by decide +kernel
theorem dcl_23 : decode jdk_65_method_131_code 23 = .ok (.invokevirtual 50, 3) := by decide +kernel
theorem dcl_26 : decode jdk_65_method_131_code 26 = .ok (.iload_n 1, 1) := by decide +kernel
theorem dcl_27 : decode jdk_65_method_131_code 27 = .ok (.invokevirtual 54, 3) := by decide +kernel
theorem dcl_30 : decode jdk_65_method_131_code 30 = .ok (.invokevirtual 61, 3) := by decide +kernel
theorem dcl_33 : decode jdk_65_method_131_code 33 = .ok (.invokespecial 65, 3) := by decide +kernel
theorem dcl_36 : decode jdk_65_method_131_code 36 = .ok (.athrow, 1) := by decide +kernel
theorem dcl_37 : decode jdk_65_method_131_code 37 = .ok (.return_, 1) := by decide +kernel
set_option maxRecDepth 65536 in
set_option maxHeartbeats 40000000 in
theorem rm_cl (l : Launch) (Z : State) (a0 : Array Value) (hw : ∀ d ∈ tables_1, d.before a0 Z = true) (p0 p1 : Int32) (h0 : Heap) (O0 : Old Z Z.heap.size h0) (hle : ¬ p1 < p0) :
    own_Con l Z (⟨"java/util/Arrays", "checkLength", "(II)V"⟩ : MethodName) jdk_65_method_131_code 2 none ({ frames := 0, cells := 0, slots := 0, locals := 0 } : Room) #[(.int p0), (.int p1)] h0 (fun v h L => v = none ∧ Fr Z.heap.size L ∧ h = h0) := by
  refine own_con (ls := #[.val (.int p0), .val (.int p1)]) (plainFor_of_name pn_java_util_Arrays) (fun m => by first | (simp [entryFrame, mkF, argsToLocals, Value.category]; done) | rfl) ?_
  intro p e s m below meth c s₁ hx hby hml0 hown0 hnm0 hret0 hlk hZ X0 e0
  have hml : c.maxLocals = 2 := hml0
  have hown : s.vm.findClass "java/util/Arrays" = some m.cls := hown0
  have hnm : meth.name = "checkLength" := hnm0
  have hret : meth.sig.returnType = none := hret0
  have F255 := Fr.nil Z.heap.size
  have F256 := Keep.refl h0 []
  refine own_step (T' := s₁) (g' := (mkF m 1 #[.val (.int p0), .val (.int p1)] [(.int p1)])) (fun _ kk => XS.iloadN X0.here hx rfl (hb hby dcl_0) rfl kk) ?_
  refine own_step (T' := s₁) (g' := (mkF m 2 #[.val (.int p0), .val (.int p1)] [(.int p0), (.int p1)])) (fun _ kk => XS.iloadN X0.here hx rfl (hb hby dcl_1) rfl kk) ?_
  refine own_step (T' := s₁) (g' := (mkF m 37 #[.val (.int p0), .val (.int p1)] [])) (fun _ kk => XS.icmpYes X0.here hx rfl (pc0 := 2) (pc' := 37) rfl (hb hby dcl_2) rfl (flt hle).2.1 (by decide) (by decide) kk) ?_
  exact own_retV X0 hx hlk hret (hb hby dcl_37) e0 ⟨rfl, F255, rfl⟩ (by decide) (by decide)
theorem dcb_0 : decode jdk_65_method_133_code 0 = .ok (.iload_n 1, 1) := by decide +kernel
theorem dcb_1 : decode jdk_65_method_133_code 1 = .ok (.iload_n 2, 1) := by decide +kernel
theorem dcb_2 : decode jdk_65_method_133_code 2 = .ok (.invokestatic 343, 3) := by decide +kernel
theorem dcb_5 : decode jdk_65_method_133_code 5 = .ok (.iload_n 2, 1) := by decide +kernel
theorem dcb_6 : decode jdk_65_method_133_code 6 = .ok (.iload_n 1, 1) := by decide +kernel
theorem dcb_7 : decode jdk_65_method_133_code 7 = .ok (.isub, 1) := by decide +kernel
theorem dcb_8 : decode jdk_65_method_133_code 8 = .ok (.istore_n 3, 1) := by decide +kernel
theorem dcb_9 : decode jdk_65_method_133_code 9 = .ok (.iload_n 3, 1) := by decide +kernel
theorem dcb_10 : decode jdk_65_method_133_code 10 = .ok (.newarray .byte, 2) := by decide +kernel
theorem dcb_12 : decode jdk_65_method_133_code 12 = .ok (.astore 4, 2) := by decide +kernel
theorem dcb_14 : decode jdk_65_method_133_code 14 = .ok (.aload_n 0, 1) := by decide +kernel
theorem dcb_15 : decode jdk_65_method_133_code 15 = .ok (.iload_n 1, 1) := by decide +kernel
theorem dcb_16 : decode jdk_65_method_133_code 16 = .ok (.aload 4, 2) := by decide +kernel
theorem dcb_18 : decode jdk_65_method_133_code 18 = .ok (.iconst 0, 1) := by decide +kernel
theorem dcb_19 : decode jdk_65_method_133_code 19 = .ok (.aload_n 0, 1) := by decide +kernel
theorem dcb_20 : decode jdk_65_method_133_code 20 = .ok (.arraylength, 1) := by decide +kernel
theorem dcb_21 : decode jdk_65_method_133_code 21 = .ok (.iload_n 1, 1) := by decide +kernel
theorem dcb_22 : decode jdk_65_method_133_code 22 = .ok (.isub, 1) := by decide +kernel
theorem dcb_23 : decode jdk_65_method_133_code 23 = .ok (.iload_n 3, 1) := by decide +kernel
theorem dcb_24 : decode jdk_65_method_133_code 24 = .ok (.invokestatic 304, 3) := by decide +kernel
theorem dcb_27 : decode jdk_65_method_133_code 27 = .ok (.invokestatic 150, 3) := by decide +kernel
theorem dcb_30 : decode jdk_65_method_133_code 30 = .ok (.aload 4, 2) := by decide +kernel
theorem dcb_32 : decode jdk_65_method_133_code 32 = .ok (.areturn, 1) := by decide +kernel
set_option maxRecDepth 65536 in
set_option maxHeartbeats 40000000 in
theorem rm_cb (l : Launch) (Z : State) (a0 : Array Value) (hw : ∀ d ∈ tables_1, d.before a0 Z = true) (b : Addr) (kb : ClassId) (ds : List Int32) (h0 : Heap) (O0 : Old Z Z.heap.size h0) (hA : Arv Z h0 b kb .byte (16 : Int32) ((ds.map own_l8).map Value.int) (.int 0)) (hl : ds.length ≤ 15) :
    own_Con l Z (⟨"java/util/Arrays", "copyOfRangeByte", "([BII)[B"⟩ : MethodName) jdk_65_method_133_code 5 (some (.array .byte)) ({ frames := 1, cells := 1, slots := 15, locals := 40 } : Room) #[(.ref b), (.int (0 : Int32)), (.int (Int32.ofNat ds.length))] h0 (fun v h L => ∃ t kt, v = some (.ref t) ∧ Fr Z.heap.size L ∧ Keep h0 h [] ∧ h0.size ≤ t ∧ Arv Z h t kt .byte (Int32.ofNat ds.length) ((ds.map own_l8).map Value.int) (.int 0)) := by
  refine own_con (ls := #[.val (.ref b), .val (.int (0 : Int32)), .val (.int (Int32.ofNat ds.length)), .unset, .unset]) (plainFor_of_name pn_java_util_Arrays) (fun m => by first | (simp [entryFrame, mkF, argsToLocals, Value.category]; done) | rfl) ?_
  intro p e s m below meth c s₁ hx hby hml0 hown0 hnm0 hret0 hlk hZ X0 e0
  have hml : c.maxLocals = 5 := hml0
  have hown : s.vm.findClass "java/util/Arrays" = some m.cls := hown0
  have hnm : meth.name = "copyOfRangeByte" := hnm0
  have hret : meth.sig.returnType = (some (.array .byte)) := hret0
  have F257 := Fr.nil Z.heap.size
  have F258 := Keep.refl h0 []
  refine own_step (T' := s₁) (g' := (mkF m 1 #[.val (.ref b), .val (.int (0 : Int32)), .val (.int (Int32.ofNat ds.length)), .unset, .unset] [(.int (0 : Int32))])) (fun _ kk => XS.iloadN X0.here hx rfl (hb hby dcb_0) rfl kk) ?_
  refine own_step (T' := s₁) (g' := (mkF m 2 #[.val (.ref b), .val (.int (0 : Int32)), .val (.int (Int32.ofNat ds.length)), .unset, .unset] [(.int (Int32.ofNat ds.length)), (.int (0 : Int32))])) (fun _ kk => XS.iloadN X0.here hx rfl (hb hby dcb_1) rfl kk) ?_
  obtain ⟨T260, L260, _, h260, X260, e260, ⟨rfl, Nq259, eh259⟩, st260⟩ := own_callS X0 hx hZ hown (w134 hw) (w135 hw) (w136 hw) (w129 hw) (by decide) (g := (mkF m 2 #[.val (.ref b), .val (.int (0 : Int32)), .val (.int (Int32.ofNat ds.length)), .unset, .unset] [(.int (Int32.ofNat ds.length)), (.int (0 : Int32))])) rfl (by rw [hml]; rfl) (argsL := [(.int (0 : Int32)), (.int (Int32.ofNat ds.length))]) (rest := []) (rm_cl l Z a0 hw (0 : Int32) (Int32.ofNat ds.length) _ O0 (own_nneg (by rw [own_ofn (by omega)]; omega))) e0 pd__II_V rfl rfl (W := 0) (by show 2 * 0 + _ ≤ _; first | exact Nat.le_of_eq rfl | simp [own_cref own_of_ref]) (hb hby dcb_2) (by decide) (by decide) (by decide) (by decide)
  have F261 := Fr.app F257 Nq259
  have F262 := e260.trans eh259
  refine own_step (T' := T260) (g' := (mkF m 5 #[.val (.ref b), .val (.int (0 : Int32)), .val (.int (Int32.ofNat ds.length)), .unset, .unset] [])) (fun _ kk => st260 _ kk) ?_
  refine own_step (T' := T260) (g' := (mkF m 6 #[.val (.ref b), .val (.int (0 : Int32)), .val (.int (Int32.ofNat ds.length)), .unset, .unset] [(.int (Int32.ofNat ds.length))])) (fun _ kk => XS.iloadN X260.here hx rfl (hb hby dcb_5) rfl kk) ?_
  refine own_step (T' := T260) (g' := (mkF m 7 #[.val (.ref b), .val (.int (0 : Int32)), .val (.int (Int32.ofNat ds.length)), .unset, .unset] [(.int (0 : Int32)), (.int (Int32.ofNat ds.length))])) (fun _ kk => XS.iloadN X260.here hx rfl (hb hby dcb_6) rfl kk) ?_
  refine own_step (T' := T260) (g' := (mkF m 8 #[.val (.ref b), .val (.int (0 : Int32)), .val (.int (Int32.ofNat ds.length)), .unset, .unset] [(.int ((Int32.ofNat ds.length) - (0 : Int32)))])) (fun _ kk => XS.isub X260.here hx rfl (hb hby dcb_7) rfl kk) ?_
  rw [own_sub0]
  refine own_step (T' := T260) (g' := (mkF m 9 #[.val (.ref b), .val (.int (0 : Int32)), .val (.int (Int32.ofNat ds.length)), .val (.int (Int32.ofNat ds.length)), .unset] [])) (fun _ kk => XS.istoreN X260.here hx rfl (hb hby dcb_8) rfl (l' := #[.val (.ref b), .val (.int (0 : Int32)), .val (.int (Int32.ofNat ds.length)), .val (.int (Int32.ofNat ds.length)), .unset]) rfl kk) ?_
  refine own_step (T' := T260) (g' := (mkF m 10 #[.val (.ref b), .val (.int (0 : Int32)), .val (.int (Int32.ofNat ds.length)), .val (.int (Int32.ofNat ds.length)), .unset] [(.int (Int32.ofNat ds.length))])) (fun _ kk => XS.iloadN X260.here hx rfl (hb hby dcb_9) rfl kk) ?_
  obtain ⟨T264, h264, cA264, X264, e264, E264, A264, st264⟩ := newP X260 hx hZ (aty := .byte) (w37 hw) F262 (g := (mkF m 10 #[.val (.ref b), .val (.int (0 : Int32)), .val (.int (Int32.ofNat ds.length)), .val (.int (Int32.ofNat ds.length)), .unset] [(.int (Int32.ofNat ds.length))])) rfl (hb hby dcb_10) rfl (own_nneg (by rw [own_ofn (by omega)]; omega)) (cap := 15) (by rw [own_clamp (by omega)]; omega) (by decide) (by decide) (by decide)
  obtain ⟨a263, g264⟩ : ∃ z, z = h0.size := ⟨_, rfl⟩
  rw [← g264] at A264 st264
  have ne265 : b ≠ a263 := Nat.ne_of_lt (by rw [g264]; exact hA.lt)
  have ge266 : Z.heap.size ≤ a263 := by rw [g264]; exact O0.2.1
  have ng267 : h0.size ≤ a263 := by rw [g264]; exact F258.1
  have F268 := hA.ext E264
  have F269 := O0.ext E264
  have F270 := F258.ext E264
  have F271 : Arv Z h264 a263 cA264 .byte (Int32.ofNat ds.length) [] (.int 0) := Arv.new A264 (own_nneg (by rw [own_ofn (by omega)]; omega))
  refine own_step (T' := T264) (g' := (mkF m 12 #[.val (.ref b), .val (.int (0 : Int32)), .val (.int (Int32.ofNat ds.length)), .val (.int (Int32.ofNat ds.length)), .unset] [(.ref a263)])) (fun _ kk => st264 _ kk) ?_
  refine own_step (T' := T264) (g' := (mkF m 14 #[.val (.ref b), .val (.int (0 : Int32)), .val (.int (Int32.ofNat ds.length)), .val (.int (Int32.ofNat ds.length)), .val (.ref a263)] [])) (fun _ kk => XS.astore X264.here hx rfl (hb hby dcb_12) rfl rfl (l' := #[.val (.ref b), .val (.int (0 : Int32)), .val (.int (Int32.ofNat ds.length)), .val (.int (Int32.ofNat ds.length)), .val (.ref a263)]) rfl kk) ?_
  refine own_step (T' := T264) (g' := (mkF m 15 #[.val (.ref b), .val (.int (0 : Int32)), .val (.int (Int32.ofNat ds.length)), .val (.int (Int32.ofNat ds.length)), .val (.ref a263)] [(.ref b)])) (fun _ kk => XS.aloadN X264.here hx rfl (hb hby dcb_14) rfl rfl kk) ?_
  refine own_step (T' := T264) (g' := (mkF m 16 #[.val (.ref b), .val (.int (0 : Int32)), .val (.int (Int32.ofNat ds.length)), .val (.int (Int32.ofNat ds.length)), .val (.ref a263)] [(.int (0 : Int32)), (.ref b)])) (fun _ kk => XS.iloadN X264.here hx rfl (hb hby dcb_15) rfl kk) ?_
  refine own_step (T' := T264) (g' := (mkF m 18 #[.val (.ref b), .val (.int (0 : Int32)), .val (.int (Int32.ofNat ds.length)), .val (.int (Int32.ofNat ds.length)), .val (.ref a263)] [(.ref a263), (.int (0 : Int32)), (.ref b)])) (fun _ kk => XS.aload X264.here hx rfl (hb hby dcb_16) rfl rfl kk) ?_
  refine own_step (T' := T264) (g' := (mkF m 19 #[.val (.ref b), .val (.int (0 : Int32)), .val (.int (Int32.ofNat ds.length)), .val (.int (Int32.ofNat ds.length)), .val (.ref a263)] [(.int (0 : Int32)), (.ref a263), (.int (0 : Int32)), (.ref b)])) (fun _ kk => XS.iconst X264.here hx rfl (hb hby dcb_18) kk) ?_
  refine own_step (T' := T264) (g' := (mkF m 20 #[.val (.ref b), .val (.int (0 : Int32)), .val (.int (Int32.ofNat ds.length)), .val (.int (Int32.ofNat ds.length)), .val (.ref a263)] [(.ref b), (.int (0 : Int32)), (.ref a263), (.int (0 : Int32)), (.ref b)])) (fun _ kk => XS.aloadN X264.here hx rfl (hb hby dcb_19) rfl rfl kk) ?_
  refine own_step (T' := T264) (g' := (mkF m 21 #[.val (.ref b), .val (.int (0 : Int32)), .val (.int (Int32.ofNat ds.length)), .val (.int (Int32.ofNat ds.length)), .val (.ref a263)] [(.int (16 : Int32)), (.int (0 : Int32)), (.ref a263), (.int (0 : Int32)), (.ref b)])) (fun _ kk => own_alen X264 hx hZ e264 F268 (g := (mkF m 20 #[.val (.ref b), .val (.int (0 : Int32)), .val (.int (Int32.ofNat ds.length)), .val (.int (Int32.ofNat ds.length)), .val (.ref a263)] [(.ref b), (.int (0 : Int32)), (.ref a263), (.int (0 : Int32)), (.ref b)])) rfl rfl (hb hby dcb_20) _ kk) ?_
  refine own_step (T' := T264) (g' := (mkF m 22 #[.val (.ref b), .val (.int (0 : Int32)), .val (.int (Int32.ofNat ds.length)), .val (.int (Int32.ofNat ds.length)), .val (.ref a263)] [(.int (0 : Int32)), (.int (16 : Int32)), (.int (0 : Int32)), (.ref a263), (.int (0 : Int32)), (.ref b)])) (fun _ kk => XS.iloadN X264.here hx rfl (hb hby dcb_21) rfl kk) ?_
  refine own_step (T' := T264) (g' := (mkF m 23 #[.val (.ref b), .val (.int (0 : Int32)), .val (.int (Int32.ofNat ds.length)), .val (.int (Int32.ofNat ds.length)), .val (.ref a263)] [(.int ((16 : Int32) - (0 : Int32))), (.int (0 : Int32)), (.ref a263), (.int (0 : Int32)), (.ref b)])) (fun _ kk => XS.isub X264.here hx rfl (hb hby dcb_22) rfl kk) ?_
  refine own_step (T' := T264) (g' := (mkF m 24 #[.val (.ref b), .val (.int (0 : Int32)), .val (.int (Int32.ofNat ds.length)), .val (.int (Int32.ofNat ds.length)), .val (.ref a263)] [(.int (Int32.ofNat ds.length)), (.int ((16 : Int32) - (0 : Int32))), (.int (0 : Int32)), (.ref a263), (.int (0 : Int32)), (.ref b)])) (fun _ kk => XS.iloadN X264.here hx rfl (hb hby dcb_23) rfl kk) ?_
  obtain ⟨T273, L273, _, h273, X273, e273, ⟨rfl, Nq272, eh272⟩, st273⟩ := own_callS X264 hx hZ hown (w137 hw) (w138 hw) (w140 hw) (w139 hw) (by decide) (g := (mkF m 24 #[.val (.ref b), .val (.int (0 : Int32)), .val (.int (Int32.ofNat ds.length)), .val (.int (Int32.ofNat ds.length)), .val (.ref a263)] [(.int (Int32.ofNat ds.length)), (.int ((16 : Int32) - (0 : Int32))), (.int (0 : Int32)), (.ref a263), (.int (0 : Int32)), (.ref b)])) rfl (by rw [hml]; rfl) (argsL := [(.int ((16 : Int32) - (0 : Int32))), (.int (Int32.ofNat ds.length))]) (rest := [(.int (0 : Int32)), (.ref a263), (.int (0 : Int32)), (.ref b)]) (rm_mi l Z a0 hw ((16 : Int32) - (0 : Int32)) (Int32.ofNat ds.length) _ F269 (own_lt (by rw [own_ofn (by omega)]; show _ < (16 : Int); omega))) e264 pd__II_I rfl rfl (W := 4) (by show 2 * 0 + _ ≤ _; first | exact Nat.le_of_eq rfl | simp [own_cref own_of_ref]) (hb hby dcb_24) (by decide) (by decide) (by decide) (by decide)
  have F274 := Fr.app F261 Nq272
  have F275 := e273.trans eh272
  refine own_step (T' := T273) (g' := (mkF m 27 #[.val (.ref b), .val (.int (0 : Int32)), .val (.int (Int32.ofNat ds.length)), .val (.int (Int32.ofNat ds.length)), .val (.ref a263)] [(.int (Int32.ofNat ds.length)), (.int (0 : Int32)), (.ref a263), (.int (0 : Int32)), (.ref b)])) (fun _ kk => st273 _ kk) ?_
  obtain ⟨T276, L276, h276, X276, e276, Kc276, Lb276, Ac276, st276⟩ := own_copy X273 hx hZ hown (w141 hw) (w144 hw) (w142 hw) (w143 hw) F275 F268 F271 (Ne.symm ne265) (by omega) (by show _ ≤ 16; omega) (by simp) (g := (mkF m 27 #[.val (.ref b), .val (.int (0 : Int32)), .val (.int (Int32.ofNat ds.length)), .val (.int (Int32.ofNat ds.length)), .val (.ref a263)] [(.int (Int32.ofNat ds.length)), (.int (0 : Int32)), (.ref a263), (.int (0 : Int32)), (.ref b)])) rfl (by rw [hml]; rfl) (rest := []) rfl (hb hby dcb_27) (by decide) (by show 2 * 0 + _ + _ ≤ _; decide)
  have F277 := Fr.app F274 (fun y hy => by rw [Lb276 y hy]; exact ge266)
  have F278 := F268.keep Kc276 (ninS ne265 nin0)
  have F279 := F269.keep Kc276 (allS ge266 all0)
  have F280 := F270.trans Kc276 (allS (Or.inr ng267) all0)
  refine own_step (T' := T276) (g' := (mkF m 30 #[.val (.ref b), .val (.int (0 : Int32)), .val (.int (Int32.ofNat ds.length)), .val (.int (Int32.ofNat ds.length)), .val (.ref a263)] [])) (fun _ kk => st276 _ kk) ?_
  refine own_step (T' := T276) (g' := (mkF m 32 #[.val (.ref b), .val (.int (0 : Int32)), .val (.int (Int32.ofNat ds.length)), .val (.int (Int32.ofNat ds.length)), .val (.ref a263)] [(.ref a263)])) (fun _ kk => XS.aload X276.here hx rfl (hb hby dcb_30) rfl rfl kk) ?_
  exact own_retA X276 hx hlk (t := (.array .byte)) hret rfl rfl rfl (hb hby dcb_32) e276 ⟨a263, _, rfl, F277, F280, ng267, Ac276⟩ (by decide) (by decide)
theorem dcr_0 : decode jdk_65_method_132_code 0 = .ok (.iload_n 1, 1) := by decide +kernel
theorem dcr_1 : decode jdk_65_method_132_code 1 = .ok (.ifCond .ne 9, 3) := by decide +kernel
theorem dcr_4 : decode jdk_65_method_132_code 4 = .ok (.iload_n 2, 1) := by decide +kernel
theorem dcr_5 : decode jdk_65_method_132_code 5 = .ok (.aload_n 0, 1) := by decide +kernel
theorem dcr_6 : decode jdk_65_method_132_code 6 = .ok (.arraylength, 1) := by decide +kernel
theorem dcr_7 : decode jdk_65_method_132_code 7 = .ok (.if_icmp .eq 10, 3) := by decide +kernel
theorem dcr_10 : decode jdk_65_method_132_code 10 = .ok (.aload_n 0, 1) := by decide +kernel
theorem dcr_11 : decode jdk_65_method_132_code 11 = .ok (.iload_n 1, 1) := by decide +kernel
theorem dcr_12 : decode jdk_65_method_132_code 12 = .ok (.iload_n 2, 1) := by decide +kernel
theorem dcr_13 : decode jdk_65_method_132_code 13 = .ok (.invokestatic 339, 3) := by decide +kernel
theorem dcr_16 : decode jdk_65_method_132_code 16 = .ok (.areturn, 1) := by decide +kernel
theorem dcr_17 : decode jdk_65_method_132_code 17 = .ok (.aload_n 0, 1) := by decide +kernel
theorem dcr_18 : decode jdk_65_method_132_code 18 = .ok (.invokevirtual 310, 3) := by decide +kernel
theorem dcr_21 : decode jdk_65_method_132_code 21 = .ok (.checkcast 311, 3) := by decide +kernel
theorem dcr_24 : decode jdk_65_method_132_code 24 = .ok (.areturn, 1) := by decide +kernel
set_option maxRecDepth 65536 in
set_option maxHeartbeats 40000000 in
theorem rm_cr (l : Launch) (Z : State) (a0 : Array Value) (hw : ∀ d ∈ tables_1, d.before a0 Z = true) (b : Addr) (kb : ClassId) (ds : List Int32) (h0 : Heap) (O0 : Old Z Z.heap.size h0) (hA : Arv Z h0 b kb .byte (16 : Int32) ((ds.map own_l8).map Value.int) (.int 0)) (hl : ds.length ≤ 15) :
    own_Con l Z (⟨"java/util/Arrays", "copyOfRange", "([BII)[B"⟩ : MethodName) jdk_65_method_132_code 3 (some (.array .byte)) ({ frames := 2, cells := 1, slots := 15, locals := 56 } : Room) #[(.ref b), (.int (0 : Int32)), (.int (Int32.ofNat ds.length))] h0 (fun v h L => ∃ t kt, v = some (.ref t) ∧ Fr Z.heap.size L ∧ Keep h0 h [] ∧ h0.size ≤ t ∧ Arv Z h t kt .byte (Int32.ofNat ds.length) ((ds.map own_l8).map Value.int) (.int 0)) := by
  refine own_con (ls := #[.val (.ref b), .val (.int (0 : Int32)), .val (.int (Int32.ofNat ds.length))]) (plainFor_of_name pn_java_util_Arrays) (fun m => by first | (simp [entryFrame, mkF, argsToLocals, Value.category]; done) | rfl) ?_
  intro p e s m below meth c s₁ hx hby hml0 hown0 hnm0 hret0 hlk hZ X0 e0
  have hml : c.maxLocals = 3 := hml0
  have hown : s.vm.findClass "java/util/Arrays" = some m.cls := hown0
  have hnm : meth.name = "copyOfRange" := hnm0
  have hret : meth.sig.returnType = (some (.array .byte)) := hret0
  have F281 := Fr.nil Z.heap.size
  have F282 := Keep.refl h0 []
  refine own_step (T' := s₁) (g' := (mkF m 1 #[.val (.ref b), .val (.int (0 : Int32)), .val (.int (Int32.ofNat ds.length))] [(.int (0 : Int32))])) (fun _ kk => XS.iloadN X0.here hx rfl (hb hby dcr_0) rfl kk) ?_
  refine own_step (T' := s₁) (g' := (mkF m 4 #[.val (.ref b), .val (.int (0 : Int32)), .val (.int (Int32.ofNat ds.length))] [])) (fun _ kk => XS.ifNo X0.here hx rfl (hb hby dcr_1) rfl ((if0 _ _).trans (teq rfl).2) kk) ?_
  refine own_step (T' := s₁) (g' := (mkF m 5 #[.val (.ref b), .val (.int (0 : Int32)), .val (.int (Int32.ofNat ds.length))] [(.int (Int32.ofNat ds.length))])) (fun _ kk => XS.iloadN X0.here hx rfl (hb hby dcr_4) rfl kk) ?_
  refine own_step (T' := s₁) (g' := (mkF m 6 #[.val (.ref b), .val (.int (0 : Int32)), .val (.int (Int32.ofNat ds.length))] [(.ref b), (.int (Int32.ofNat ds.length))])) (fun _ kk => XS.aloadN X0.here hx rfl (hb hby dcr_5) rfl rfl kk) ?_
  refine own_step (T' := s₁) (g' := (mkF m 7 #[.val (.ref b), .val (.int (0 : Int32)), .val (.int (Int32.ofNat ds.length))] [(.int (16 : Int32)), (.int (Int32.ofNat ds.length))])) (fun _ kk => own_alen X0 hx hZ e0 hA (g := (mkF m 6 #[.val (.ref b), .val (.int (0 : Int32)), .val (.int (Int32.ofNat ds.length))] [(.ref b), (.int (Int32.ofNat ds.length))])) rfl rfl (hb hby dcr_6) _ kk) ?_
  refine own_step (T' := s₁) (g' := (mkF m 10 #[.val (.ref b), .val (.int (0 : Int32)), .val (.int (Int32.ofNat ds.length))] [])) (fun _ kk => XS.icmpNo X0.here hx rfl (hb hby dcr_7) rfl (feq (fun q => by have := congrArg Int32.toInt q; rw [own_ofn (by omega), show (16 : Int32).toInt = 16 by decide] at this; omega)).1 kk) ?_
  refine own_step (T' := s₁) (g' := (mkF m 11 #[.val (.ref b), .val (.int (0 : Int32)), .val (.int (Int32.ofNat ds.length))] [(.ref b)])) (fun _ kk => XS.aloadN X0.here hx rfl (hb hby dcr_10) rfl rfl kk) ?_
  refine own_step (T' := s₁) (g' := (mkF m 12 #[.val (.ref b), .val (.int (0 : Int32)), .val (.int (Int32.ofNat ds.length))] [(.int (0 : Int32)), (.ref b)])) (fun _ kk => XS.iloadN X0.here hx rfl (hb hby dcr_11) rfl kk) ?_
  refine own_step (T' := s₁) (g' := (mkF m 13 #[.val (.ref b), .val (.int (0 : Int32)), .val (.int (Int32.ofNat ds.length))] [(.int (Int32.ofNat ds.length)), (.int (0 : Int32)), (.ref b)])) (fun _ kk => XS.iloadN X0.here hx rfl (hb hby dcr_12) rfl kk) ?_
  obtain ⟨T283, L283, _, h283, X283, e283, ⟨t, kt, rfl, Nc, Kc, gt, At⟩, st283⟩ := own_callS X0 hx hZ hown (w131 hw) (w132 hw) (w133 hw) (w129 hw) (by decide) (g := (mkF m 13 #[.val (.ref b), .val (.int (0 : Int32)), .val (.int (Int32.ofNat ds.length))] [(.int (Int32.ofNat ds.length)), (.int (0 : Int32)), (.ref b)])) rfl (by rw [hml]; rfl) (argsL := [(.ref b), (.int (0 : Int32)), (.int (Int32.ofNat ds.length))]) (rest := []) (rm_cb l Z a0 hw b kb ds _ O0 hA hl) e0 pd___BII__B rfl rfl (W := 0) (by show 2 * 0 + _ ≤ _; first | exact Nat.le_of_eq rfl | simp [own_cref own_of_ref]) (hb hby dcr_13) (by decide) (by decide) (by decide) (by decide)
  have F284 := Fr.app F281 Nc
  have F285 := hA.keep Kc nin0
  have F286 := O0.keep Kc all0
  have F287 := F282.trans Kc all0
  refine own_step (T' := T283) (g' := (mkF m 16 #[.val (.ref b), .val (.int (0 : Int32)), .val (.int (Int32.ofNat ds.length))] [(.ref t)])) (fun _ kk => st283 _ kk) ?_
  exact own_retA X283 hx hlk (t := (.array .byte)) hret rfl rfl rfl (hb hby dcr_16) e283 ⟨t, kt, rfl, F284, F287, gt, At⟩ (by decide) (by decide)
theorem dsv_0 : decode jdk_42_method_150_code 0 = .ok (.aload_n 0, 1) := by decide +kernel
theorem dsv_1 : decode jdk_42_method_150_code 1 = .ok (.invokespecial 1, 3) := by decide +kernel
theorem dsv_4 : decode jdk_42_method_150_code 4 = .ok (.aload_n 1, 1) := by decide +kernel
theorem dsv_5 : decode jdk_42_method_150_code 5 = .ok (.invokevirtual 552, 3) := by decide +kernel
theorem dsv_8 : decode jdk_42_method_150_code 8 = .ok (.astore_n 3, 1) := by decide +kernel
theorem dsv_9 : decode jdk_42_method_150_code 9 = .ok (.aload_n 1, 1) := by decide +kernel
theorem dsv_10 : decode jdk_42_method_150_code 10 = .ok (.invokevirtual 549, 3) := by decide +kernel
theorem dsv_13 : decode jdk_42_method_150_code 13 = .ok (.istore 4, 2) := by decide +kernel
theorem dsv_15 : decode jdk_42_method_150_code 15 = .ok (.aload_n 1, 1) := by decide +kernel
theorem dsv_16 : decode jdk_42_method_150_code 16 = .ok (.invokevirtual 1047, 3) := by decide +kernel
theorem dsv_19 : decode jdk_42_method_150_code 19 = .ok (.ifCond .eq 22, 3) := by decide +kernel
theorem dsv_22 : decode jdk_42_method_150_code 22 = .ok (.aload_n 0, 1) := by decide +kernel
theorem dsv_23 : decode jdk_42_method_150_code 23 = .ok (.iconst 0, 1) := by decide +kernel
theorem dsv_24 : decode jdk_42_method_150_code 24 = .ok (.putfield 15, 3) := by decide +kernel
theorem dsv_27 : decode jdk_42_method_150_code 27 = .ok (.aload_n 0, 1) := by decide +kernel
theorem dsv_28 : decode jdk_42_method_150_code 28 = .ok (.aload_n 3, 1) := by decide +kernel
theorem dsv_29 : decode jdk_42_method_150_code 29 = .ok (.iconst 0, 1) := by decide +kernel
theorem dsv_30 : decode jdk_42_method_150_code 30 = .ok (.iload 4, 2) := by decide +kernel
theorem dsv_32 : decode jdk_42_method_150_code 32 = .ok (.invokestatic 54, 3) := by decide +kernel
theorem dsv_35 : decode jdk_42_method_150_code 35 = .ok (.putfield 9, 3) := by decide +kernel
theorem dsv_38 : decode jdk_42_method_150_code 38 = .ok (.goto 59, 3) := by decide +kernel
theorem dsv_41 : decode jdk_42_method_150_code 41 = .ok (.getstatic 38, 3) := by decide +kernel
theorem dsv_44 : decode jdk_42_method_150_code 44 = .ok (.ifCond .eq 35, 3) := by decide +kernel
theorem dsv_47 : decode jdk_42_method_150_code 47 = .ok (.aload_n 1, 1) := by decide +kernel
theorem dsv_48 : decode jdk_42_method_150_code 48 = .ok (.getfield 1048, 3) := by decide +kernel
theorem dsv_51 : decode jdk_42_method_150_code 51 = .ok (.ifCond .eq 28, 3) := by decide +kernel
theorem dsv_54 : decode jdk_42_method_150_code 54 = .ok (.aload_n 0, 1) := by decide +kernel
theorem dsv_55 : decode jdk_42_method_150_code 55 = .ok (.aload_n 3, 1) := by decide +kernel
theorem dsv_56 : decode jdk_42_method_150_code 56 = .ok (.iconst 0, 1) := by decide +kernel
theorem dsv_57 : decode jdk_42_method_150_code 57 = .ok (.iload 4, 2) := by decide +kernel
theorem dsv_59 : decode jdk_42_method_150_code 59 = .ok (.invokestatic 1051, 3) := by decide +kernel
theorem dsv_62 : decode jdk_42_method_150_code 62 = .ok (.putfield 9, 3) := by decide +kernel
theorem dsv_65 : decode jdk_42_method_150_code 65 = .ok (.aload_n 0, 1) := by decide +kernel
theorem dsv_66 : decode jdk_42_method_150_code 66 = .ok (.aload_n 0, 1) := by decide +kernel
theorem dsv_67 : decode jdk_42_method_150_code 67 = .ok (.getfield 9, 3) := by decide +kernel
theorem dsv_70 : decode jdk_42_method_150_code 70 = .ok (.iload 4, 2) := by decide +kernel
theorem dsv_72 : decode jdk_42_method_150_code 72 = .ok (.invokestatic 47, 3) := by decide +kernel
theorem dsv_75 : decode jdk_42_method_150_code 75 = .ok (.putfield 15, 3) := by decide +kernel
theorem dsv_78 : decode jdk_42_method_150_code 78 = .ok (.return_, 1) := by decide +kernel
theorem dsv_79 : decode jdk_42_method_150_code 79 = .ok (.aload_n 0, 1) := by decide +kernel
theorem dsv_80 : decode jdk_42_method_150_code 80 = .ok (.iconst 1, 1) := by decide +kernel
theorem dsv_81 : decode jdk_42_method_150_code 81 = .ok (.putfield 15, 3) := by decide +kernel
theorem dsv_84 : decode jdk_42_method_150_code 84 = .ok (.aload_n 0, 1) := by decide +kernel
theorem dsv_85 : decode jdk_42_method_150_code 85 = .ok (.aload_n 3, 1) := by decide +kernel
theorem dsv_86 : decode jdk_42_method_150_code 86 = .ok (.iconst 0, 1) := by decide +kernel
theorem dsv_87 : decode jdk_42_method_150_code 87 = .ok (.iload 4, 2) := by decide +kernel
theorem dsv_89 : decode jdk_42_method_150_code 89 = .ok (.iconst 1, 1) := by decide +kernel
theorem dsv_90 : decode jdk_42_method_150_code 90 = .ok (.ishl, 1) := by decide +kernel
theorem dsv_91 : decode jdk_42_method_150_code 91 = .ok (.invokestatic 54, 3) := by decide +kernel
theorem dsv_94 : decode jdk_42_method_150_code 94 = .ok (.putfield 9, 3) := by decide +kernel
theorem dsv_97 : decode jdk_42_method_150_code 97 = .ok (.return_, 1) := by decide +kernel
set_option maxRecDepth 65536 in
set_option maxHeartbeats 40000000 in
theorem rm_sv (l : Launch) (Z : State) (a0 : Array Value) (hw : ∀ d ∈ tables_1, d.before a0 Z = true) (a1 sb b : Addr) (kb : ClassId) (ds : List Int32) (zc : Int32) (h0 : Heap) (O0 : Old Z Z.heap.size h0) (O1 : own_Obj Z h0 a1 "java/lang/String") (g1 : Z.heap.size ≤ a1) (hsb : own_SB Z h0 sb b kb ds) (n1 : sb ≠ a1) (n2 : b ≠ a1) (hl : ds.length ≤ 15) (SC : Sta Z Z.heap "java/lang/String" "COMPACT_STRINGS" "Z" (.int zc)) (hzc : ¬ zc = (0 : Int32)) :
    own_Con l Z (⟨"java/lang/String", "<init>", "(Ljava/lang/AbstractStringBuilder;Ljava/lang/Void;)V"⟩ : MethodName) jdk_42_method_150_code 5 none ({ frames := 3, cells := 1, slots := 15, locals := 71 } : Room) #[(.ref a1), (.ref sb), .null] h0 (fun v h L => v = none ∧ Fr Z.heap.size L ∧ Keep h0 h [a1] ∧ own_Str Z h a1 ds) := by
  refine own_con (ls := #[.val (.ref a1), .val (.ref sb), .val .null, .unset, .unset]) (plainFor_of_name pn_java_lang_String) (fun m => by first | (simp [entryFrame, mkF, argsToLocals, Value.category]; done) | rfl) ?_
  intro p e s m below meth c s₁ hx hby hml0 hown0 hnm0 hret0 hlk hZ X0 e0
  have hml : c.maxLocals = 5 := hml0
  have hown : s.vm.findClass "java/lang/String" = some m.cls := hown0
  have hnm : meth.name = "<init>" := hnm0
  have hret : meth.sig.returnType = none := hret0
  have F288 := Fr.nil Z.heap.size
  have F289 := Keep.refl h0 []
  obtain ⟨OB290, FV290, FC290, FN290, AB290⟩ := id hsb
  have F291 := Keep.refl h0 [a1]
  refine own_step (T' := s₁) (g' := (mkF m 1 #[.val (.ref a1), .val (.ref sb), .val .null, .unset, .unset] [(.ref a1)])) (fun _ kk => XS.aloadN X0.here hx rfl (hb hby dsv_0) rfl rfl kk) ?_
  obtain ⟨T292, X292, e292, st292⟩ := initO X0 hx hZ hown (w116 hw) (w18 hw) (w19 hw) e0 (g := (mkF m 1 #[.val (.ref a1), .val (.ref sb), .val .null, .unset, .unset] [(.ref a1)])) rfl (by rw [hml]; rfl) rfl (hb hby dsv_1) (by decide) (W := 0) (by show 2 * 0 + _ ≤ _; first | exact Nat.le_of_eq rfl | simp [own_cref own_of_ref]) (by decide)
  refine own_step (T' := T292) (g' := (mkF m 4 #[.val (.ref a1), .val (.ref sb), .val .null, .unset, .unset] [])) (fun _ kk => st292 _ kk) ?_
  refine own_step (T' := T292) (g' := (mkF m 5 #[.val (.ref a1), .val (.ref sb), .val .null, .unset, .unset] [(.ref sb)])) (fun _ kk => XS.aloadN X292.here hx rfl (hb hby dsv_4) rfl rfl kk) ?_
  obtain ⟨T294, L294, _, h294, X294, e294, ⟨rfl, Nq293, eh293⟩, st294⟩ := own_callV X292 hx hZ hown (w117 hw) (w118 hw) (w120 hw) (w119 hw) (w121 hw) (w32 hw) (by decide) OB290.1 (g := (mkF m 5 #[.val (.ref a1), .val (.ref sb), .val .null, .unset, .unset] [(.ref sb)])) rfl (by rw [hml]; rfl) (argsL := []) (rest := []) (rm_gv l Z a0 hw sb b kb ds _ O0 hsb) e292 pd____B rfl rfl (W := 0) (by show 2 * 0 + _ ≤ _; first | exact Nat.le_of_eq rfl | simp [own_cref own_of_ref]) (hb hby dsv_5) (by decide) (by decide) (by decide) (by decide)
  have F295 := Fr.app F288 Nq293
  have F296 := e294.trans eh293
  refine own_step (T' := T294) (g' := (mkF m 8 #[.val (.ref a1), .val (.ref sb), .val .null, .unset, .unset] [(.ref b)])) (fun _ kk => st294 _ kk) ?_
  refine own_step (T' := T294) (g' := (mkF m 9 #[.val (.ref a1), .val (.ref sb), .val .null, .val (.ref b), .unset] [])) (fun _ kk => XS.astoreN X294.here hx rfl (hb hby dsv_8) rfl rfl (l' := #[.val (.ref a1), .val (.ref sb), .val .null, .val (.ref b), .unset]) rfl kk) ?_
  refine own_step (T' := T294) (g' := (mkF m 10 #[.val (.ref a1), .val (.ref sb), .val .null, .val (.ref b), .unset] [(.ref sb)])) (fun _ kk => XS.aloadN X294.here hx rfl (hb hby dsv_9) rfl rfl kk) ?_
  obtain ⟨T298, L298, _, h298, X298, e298, ⟨rfl, Nq297, eh297⟩, st298⟩ := own_callVz (y := ⟨"java/lang/AbstractStringBuilder", "length", "()I"⟩) (z := (⟨"java/lang/StringBuilder", "length", "()I"⟩ : MethodName)) X294 hx hZ hown (w122 hw) (w63 hw) (show own_NI Z "java/lang/AbstractStringBuilder" from own_NI.sel (w85 hw)) (w123 hw) (w57 hw) (w59 hw) (w24 hw) (by decide) OB290.1 (g := (mkF m 10 #[.val (.ref a1), .val (.ref sb), .val .null, .val (.ref b), .unset] [(.ref sb)])) rfl (by rw [hml]; rfl) (argsL := []) (rest := []) (rm_sl l Z a0 hw sb (Int32.ofNat ds.length) _ O0 hsb.1.1 hsb.2.2.2.1) F296 pd___I rfl rfl (W := 0) (by show 2 * 0 + _ ≤ _; first | exact Nat.le_of_eq rfl | simp [own_cref own_of_ref]) (hb hby dsv_10) (by decide) (by decide) (by decide) (by decide)
  have F299 := Fr.app F295 Nq297
  have F300 := e298.trans eh297
  refine own_step (T' := T298) (g' := (mkF m 13 #[.val (.ref a1), .val (.ref sb), .val .null, .val (.ref b), .unset] [(.int (Int32.ofNat ds.length))])) (fun _ kk => st298 _ kk) ?_
  refine own_step (T' := T298) (g' := (mkF m 15 #[.val (.ref a1), .val (.ref sb), .val .null, .val (.ref b), .val (.int (Int32.ofNat ds.length))] [])) (fun _ kk => XS.istore X298.here hx rfl (hb hby dsv_13) rfl (l' := #[.val (.ref a1), .val (.ref sb), .val .null, .val (.ref b), .val (.int (Int32.ofNat ds.length))]) rfl kk) ?_
  refine own_step (T' := T298) (g' := (mkF m 16 #[.val (.ref a1), .val (.ref sb), .val .null, .val (.ref b), .val (.int (Int32.ofNat ds.length))] [(.ref sb)])) (fun _ kk => XS.aloadN X298.here hx rfl (hb hby dsv_15) rfl rfl kk) ?_
  obtain ⟨T302, L302, _, h302, X302, e302, ⟨rfl, Nq301, eh301⟩, st302⟩ := own_callV X298 hx hZ hown (w124 hw) (w93 hw) (w95 hw) (w94 hw) (w96 hw) (w32 hw) (by decide) OB290.1 (g := (mkF m 16 #[.val (.ref a1), .val (.ref sb), .val .null, .val (.ref b), .val (.int (Int32.ofNat ds.length))] [(.ref sb)])) rfl (by rw [hml]; rfl) (argsL := []) (rest := []) (rm_il l Z a0 hw sb b kb ds zc _ O0 hsb SC hzc) F300 pd___Z rfl rfl (W := 0) (by show 2 * 0 + _ ≤ _; first | exact Nat.le_of_eq rfl | simp [own_cref own_of_ref]) (hb hby dsv_16) (by decide) (by decide) (by decide) (by decide)
  have F303 := Fr.app F299 Nq301
  have F304 := e302.trans eh301
  refine own_step (T' := T302) (g' := (mkF m 19 #[.val (.ref a1), .val (.ref sb), .val .null, .val (.ref b), .val (.int (Int32.ofNat ds.length))] [(.int (1 : Int32))])) (fun _ kk => st302 _ kk) ?_
  refine own_step (T' := T302) (g' := (mkF m 22 #[.val (.ref a1), .val (.ref sb), .val .null, .val (.ref b), .val (.int (Int32.ofNat ds.length))] [])) (fun _ kk => XS.ifNo X302.here hx rfl (hb hby dsv_19) rfl ((if0 _ _).trans (feq (by decide)).1) kk) ?_
  refine own_step (T' := T302) (g' := (mkF m 23 #[.val (.ref a1), .val (.ref sb), .val .null, .val (.ref b), .val (.int (Int32.ofNat ds.length))] [(.ref a1)])) (fun _ kk => XS.aloadN X302.here hx rfl (hb hby dsv_22) rfl rfl kk) ?_
  refine own_step (T' := T302) (g' := (mkF m 24 #[.val (.ref a1), .val (.ref sb), .val .null, .val (.ref b), .val (.int (Int32.ofNat ds.length))] [(.int (0 : Int32)), (.ref a1)])) (fun _ kk => XS.iconst X302.here hx rfl (hb hby dsv_23) kk) ?_
  obtain ⟨u305, Fu305⟩ := O1.fld (w108 hw) (Or.inr (w126 hw) : Laid Z a0 "java/lang/String" "java/lang/String" "coder" "B")
  obtain ⟨T305, h305, X305, e305, W305, st305⟩ := putF X302 hx hZ hown (host := "") (Or.inl (w125 hw)) Via.refl F304 Fu305 O1.1 (Or.inr ⟨(w126 hw), rfl, hnm⟩) (w108 hw) (ty := .byte) (by decide) rfl rfl (g := (mkF m 24 #[.val (.ref a1), .val (.ref sb), .val .null, .val (.ref b), .val (.int (Int32.ofNat ds.length))] [(.int (0 : Int32)), (.ref a1)])) rfl rfl (hb hby dsv_24)
  have F306 := Fr.snoc X305 F303 g1
  have F307 := O1.wr W305
  have F308 := OB290.wr W305
  have F309 := FV290.other W305 (Or.inl n1)
  have F310 := FC290.other W305 (Or.inl n1)
  have F311 := FN290.other W305 (Or.inl n1)
  have F312 := AB290.other W305 n2
  have F313 := O0.wr W305 g1
  have F314 := F291.wr W305 (Or.inl (List.mem_of_getElem? (i := 0) rfl))
  have F315 : Fld Z h305 a1 "java/lang/String" "coder" "B" (.int (0 : Int32)) := Fu305.same W305
  refine own_step (T' := T305) (g' := (mkF m 27 #[.val (.ref a1), .val (.ref sb), .val .null, .val (.ref b), .val (.int (Int32.ofNat ds.length))] [])) (fun _ kk => st305 _ kk) ?_
  refine own_step (T' := T305) (g' := (mkF m 28 #[.val (.ref a1), .val (.ref sb), .val .null, .val (.ref b), .val (.int (Int32.ofNat ds.length))] [(.ref a1)])) (fun _ kk => XS.aloadN X305.here hx rfl (hb hby dsv_27) rfl rfl kk) ?_
  refine own_step (T' := T305) (g' := (mkF m 29 #[.val (.ref a1), .val (.ref sb), .val .null, .val (.ref b), .val (.int (Int32.ofNat ds.length))] [(.ref b), (.ref a1)])) (fun _ kk => XS.aloadN X305.here hx rfl (hb hby dsv_28) rfl rfl kk) ?_
  refine own_step (T' := T305) (g' := (mkF m 30 #[.val (.ref a1), .val (.ref sb), .val .null, .val (.ref b), .val (.int (Int32.ofNat ds.length))] [(.int (0 : Int32)), (.ref b), (.ref a1)])) (fun _ kk => XS.iconst X305.here hx rfl (hb hby dsv_29) kk) ?_
  refine own_step (T' := T305) (g' := (mkF m 32 #[.val (.ref a1), .val (.ref sb), .val .null, .val (.ref b), .val (.int (Int32.ofNat ds.length))] [(.int (Int32.ofNat ds.length)), (.int (0 : Int32)), (.ref b), (.ref a1)])) (fun _ kk => XS.iload X305.here hx rfl (hb hby dsv_30) rfl kk) ?_
  obtain ⟨T316, L316, _, h316, X316, e316, ⟨t, kt, rfl, Nc, Kc, gt, At⟩, st316⟩ := own_callS X305 hx hZ hown (w127 hw) (w128 hw) (w130 hw) (w129 hw) (by decide) (g := (mkF m 32 #[.val (.ref a1), .val (.ref sb), .val .null, .val (.ref b), .val (.int (Int32.ofNat ds.length))] [(.int (Int32.ofNat ds.length)), (.int (0 : Int32)), (.ref b), (.ref a1)])) rfl (by rw [hml]; rfl) (argsL := [(.ref b), (.int (0 : Int32)), (.int (Int32.ofNat ds.length))]) (rest := [(.ref a1)]) (rm_cr l Z a0 hw b kb ds _ F313 F312 hl) e305 pd___BII__B rfl rfl (W := 1) (by show 2 * 0 + _ ≤ _; first | exact Nat.le_of_eq rfl | simp [own_cref own_of_ref]) (hb hby dsv_32) (by decide) (by decide) (by decide) (by decide)
  have ne317 : a1 ≠ t := Nat.ne_of_lt (Nat.lt_of_lt_of_le F307.lt gt)
  have ne318 : sb ≠ t := Nat.ne_of_lt (Nat.lt_of_lt_of_le F308.lt gt)
  have ne319 : b ≠ t := Nat.ne_of_lt (Nat.lt_of_lt_of_le F312.lt gt)
  have F320 := Fr.app F306 Nc
  have F321 := F307.keep Kc
  have F322 := F308.keep Kc
  have F323 := F309.keep Kc nin0
  have F324 := F310.keep Kc nin0
  have F325 := F311.keep Kc nin0
  have F326 := F312.keep Kc nin0
  have F327 := F315.keep Kc nin0
  have F328 := F313.keep Kc all0
  have F329 := F314.trans Kc all0
  refine own_step (T' := T316) (g' := (mkF m 35 #[.val (.ref a1), .val (.ref sb), .val .null, .val (.ref b), .val (.int (Int32.ofNat ds.length))] [(.ref t), (.ref a1)])) (fun _ kk => st316 _ kk) ?_
  obtain ⟨u330, Fu330⟩ := F321.fld (w108 hw) (Or.inr (w146 hw) : Laid Z a0 "java/lang/String" "java/lang/String" "value" "[B")
  obtain ⟨T330, h330, X330, e330, W330, st330⟩ := putF X316 hx hZ hown (host := "") (Or.inl (w145 hw)) Via.refl e316 Fu330 F321.1 (Or.inr ⟨(w146 hw), rfl, hnm⟩) (w108 hw) (ty := (.array .byte)) (by decide) rfl rfl (g := (mkF m 35 #[.val (.ref a1), .val (.ref sb), .val .null, .val (.ref b), .val (.int (Int32.ofNat ds.length))] [(.ref t), (.ref a1)])) rfl rfl (hb hby dsv_35)
  have F331 := Fr.snoc X330 F320 g1
  have F332 := F321.wr W330
  have F333 := F322.wr W330
  have F334 := F323.other W330 (Or.inl n1)
  have F335 := F324.other W330 (Or.inl n1)
  have F336 := F325.other W330 (Or.inl n1)
  have F337 := F326.other W330 n2
  have F338 := F327.other W330 (Or.inr (slot_ne (Or.inr (w126 hw) : Laid Z a0 "java/lang/String" "java/lang/String" "coder" "B") (Or.inr (w146 hw) : Laid Z a0 "java/lang/String" "java/lang/String" "value" "[B") (by decide) (t := .byte) (t' := (.array .byte)) (by decide) (by decide)))
  have F339 := At.other W330 (Ne.symm ne317)
  have F340 := F328.wr W330 g1
  have F341 := F329.wr W330 (Or.inl (List.mem_of_getElem? (i := 0) rfl))
  have F342 : Fld Z h330 a1 "java/lang/String" "value" "[B" (.ref t) := Fu330.same W330
  refine own_step (T' := T330) (g' := (mkF m 38 #[.val (.ref a1), .val (.ref sb), .val .null, .val (.ref b), .val (.int (Int32.ofNat ds.length))] [])) (fun _ kk => st330 _ kk) ?_
  refine own_step (T' := T330) (g' := (mkF m 97 #[.val (.ref a1), .val (.ref sb), .val .null, .val (.ref b), .val (.int (Int32.ofNat ds.length))] [])) (fun _ kk => XS.goto X330.here hx rfl (pc0 := 38) (pc' := 97) rfl (hb hby dsv_38) (by decide) (by decide) kk) ?_
  exact own_retV X330 hx hlk hret (hb hby dsv_97) e330 ⟨rfl, F331, F341, t, kt, F332.1, F338, F342, F339⟩ (by decide) (by decide)
theorem ds2_0 : decode jdk_42_method_53_code 0 = .ok (.aload_n 0, 1) := by decide +kernel
theorem ds2_1 : decode jdk_42_method_53_code 1 = .ok (.aload_n 1, 1) := by decide +kernel
theorem ds2_2 : decode jdk_42_method_53_code 2 = .ok (.aconst_null, 1) := by decide +kernel
theorem ds2_3 : decode jdk_42_method_53_code 3 = .ok (.invokespecial 489, 3) := by decide +kernel
theorem ds2_6 : decode jdk_42_method_53_code 6 = .ok (.return_, 1) := by decide +kernel
set_option maxRecDepth 65536 in
set_option maxHeartbeats 40000000 in
theorem rm_s2 (l : Launch) (Z : State) (a0 : Array Value) (hw : ∀ d ∈ tables_1, d.before a0 Z = true) (a1 sb b : Addr) (kb : ClassId) (ds : List Int32) (zc : Int32) (h0 : Heap) (O0 : Old Z Z.heap.size h0) (O1 : own_Obj Z h0 a1 "java/lang/String") (g1 : Z.heap.size ≤ a1) (hsb : own_SB Z h0 sb b kb ds) (n1 : sb ≠ a1) (n2 : b ≠ a1) (hl : ds.length ≤ 15) (SC : Sta Z Z.heap "java/lang/String" "COMPACT_STRINGS" "Z" (.int zc)) (hzc : ¬ zc = (0 : Int32)) :
    own_Con l Z (⟨"java/lang/String", "<init>", "(Ljava/lang/StringBuilder;)V"⟩ : MethodName) jdk_42_method_53_code 2 none ({ frames := 4, cells := 1, slots := 15, locals := 87 } : Room) #[(.ref a1), (.ref sb)] h0 (fun v h L => v = none ∧ Fr Z.heap.size L ∧ Keep h0 h [a1] ∧ own_Str Z h a1 ds) := by
  refine own_con (ls := #[.val (.ref a1), .val (.ref sb)]) (plainFor_of_name pn_java_lang_String) (fun m => by first | (simp [entryFrame, mkF, argsToLocals, Value.category]; done) | rfl) ?_
  intro p e s m below meth c s₁ hx hby hml0 hown0 hnm0 hret0 hlk hZ X0 e0
  have hml : c.maxLocals = 2 := hml0
  have hown : s.vm.findClass "java/lang/String" = some m.cls := hown0
  have hnm : meth.name = "<init>" := hnm0
  have hret : meth.sig.returnType = none := hret0
  have F343 := Fr.nil Z.heap.size
  have F344 := Keep.refl h0 []
  have F345 := Keep.refl h0 [a1]
  refine own_step (T' := s₁) (g' := (mkF m 1 #[.val (.ref a1), .val (.ref sb)] [(.ref a1)])) (fun _ kk => XS.aloadN X0.here hx rfl (hb hby ds2_0) rfl rfl kk) ?_
  refine own_step (T' := s₁) (g' := (mkF m 2 #[.val (.ref a1), .val (.ref sb)] [(.ref sb), (.ref a1)])) (fun _ kk => XS.aloadN X0.here hx rfl (hb hby ds2_1) rfl rfl kk) ?_
  refine own_step (T' := s₁) (g' := (mkF m 3 #[.val (.ref a1), .val (.ref sb)] [.null, (.ref sb), (.ref a1)])) (fun _ kk => XS.aconstNull X0.here hx rfl (hb hby ds2_2) kk) ?_
  obtain ⟨T346, L346, _, h346, X346, e346, ⟨rfl, Nc, Kc, Sc⟩, st346⟩ := own_callC X0 hx hZ hown rfl (w113 hw) (w114 hw) (w115 hw) (w36 hw) (by decide) (a := a1) (g := (mkF m 3 #[.val (.ref a1), .val (.ref sb)] [.null, (.ref sb), (.ref a1)])) rfl (by rw [hml]; rfl) (argsL := [(.ref sb), .null]) (rest := []) (rm_sv l Z a0 hw a1 sb b kb ds zc _ O0 O1 g1 hsb n1 n2 hl SC hzc) e0 pd__Ljava_lang_AbstractStringBuilder_Ljava_lang_Void__V rfl rfl (W := 0) (by show 2 * 0 + _ ≤ _; first | exact Nat.le_of_eq rfl | simp [own_cref own_of_ref]) (hb hby ds2_3) (by decide) (by decide) (by decide) (by decide)
  have F347 := Fr.app F343 Nc
  have F348 := O1.keep Kc
  have F349 := O0.keep Kc (allS g1 all0)
  have F350 := F345.trans Kc (allS (Or.inl (List.mem_of_getElem? (i := 0) rfl)) all0)
  refine own_step (T' := T346) (g' := (mkF m 6 #[.val (.ref a1), .val (.ref sb)] [])) (fun _ kk => st346 _ kk) ?_
  exact own_retV X346 hx hlk hret (hb hby ds2_6) e346 ⟨rfl, F347, F350, Sc⟩ (by decide) (by decide)
theorem dts_0 : decode jdk_67_method_42_code 0 = .ok (.new 18, 3) := by decide +kernel
theorem dts_3 : decode jdk_67_method_42_code 3 = .ok (.dup, 1) := by decide +kernel
theorem dts_4 : decode jdk_67_method_42_code 4 = .ok (.aload_n 0, 1) := by decide +kernel
theorem dts_5 : decode jdk_67_method_42_code 5 = .ok (.invokespecial 137, 3) := by decide +kernel
theorem dts_8 : decode jdk_67_method_42_code 8 = .ok (.areturn, 1) := by decide +kernel
set_option maxRecDepth 65536 in
set_option maxHeartbeats 40000000 in
theorem rm_ts (l : Launch) (Z : State) (a0 : Array Value) (hw : ∀ d ∈ tables_1, d.before a0 Z = true) (a1 b : Addr) (kb : ClassId) (ds : List Int32) (zc : Int32) (h0 : Heap) (O0 : Old Z Z.heap.size h0) (hsb : own_SB Z h0 a1 b kb ds) (hl : ds.length ≤ 15) (SC : Sta Z Z.heap "java/lang/String" "COMPACT_STRINGS" "Z" (.int zc)) (hzc : ¬ zc = (0 : Int32)) :
    own_Con l Z (⟨"java/lang/StringBuilder", "toString", "()Ljava/lang/String;"⟩ : MethodName) jdk_67_method_42_code 1 (some (.object "java/lang/String")) ({ frames := 5, cells := 2, slots := 19, locals := 101 } : Room) #[(.ref a1)] h0 (fun v h L => ∃ a, v = some (.ref a) ∧ Fr Z.heap.size L ∧ Keep h0 h [] ∧ h0.size ≤ a ∧ own_Str Z h a ds) := by
  refine own_con (ls := #[.val (.ref a1)]) (plainFor_of_name pn_java_lang_StringBuilder) (fun m => by first | (simp [entryFrame, mkF, argsToLocals, Value.category]; done) | rfl) ?_
  intro p e s m below meth c s₁ hx hby hml0 hown0 hnm0 hret0 hlk hZ X0 e0
  have hml : c.maxLocals = 1 := hml0
  have hown : s.vm.findClass "java/lang/StringBuilder" = some m.cls := hown0
  have hnm : meth.name = "toString" := hnm0
  have hret : meth.sig.returnType = (some (.object "java/lang/String")) := hret0
  have F351 := Fr.nil Z.heap.size
  have F352 := Keep.refl h0 []
  obtain ⟨OB353, FV353, FC353, FN353, AB353⟩ := id hsb
  obtain ⟨T354, h354, X354, e354, E354, A354, D354, U354, st354⟩ := newO X0 hx hZ hown (w107 hw) (w108 hw) (w36 hw) e0 (g := (mkF m 0 #[.val (.ref a1)] [])) rfl (hb hby dts_0) (by decide) (by decide)
  obtain ⟨ns, g354⟩ : ∃ z, z = h0.size := ⟨_, rfl⟩
  rw [← g354] at A354 D354 U354 st354
  have ne355 : a1 ≠ ns := Nat.ne_of_lt (by rw [g354]; exact OB353.lt)
  have ne356 : b ≠ ns := Nat.ne_of_lt (by rw [g354]; exact AB353.lt)
  have ge357 : Z.heap.size ≤ ns := by rw [g354]; exact O0.2.1
  have ng358 : h0.size ≤ ns := by rw [g354]; exact F352.1
  have F359 := OB353.ext E354
  have F360 := FV353.ext E354
  have F361 := FC353.ext E354
  have F362 := FN353.ext E354
  have F363 := AB353.ext E354
  have F364 := O0.ext E354
  have F365 := F352.ext E354
  have F366 : own_Obj Z h354 ns "java/lang/String" := own_Obj.new A354 U354
  refine own_step (T' := T354) (g' := (mkF m 3 #[.val (.ref a1)] [(.ref ns)])) (fun _ kk => st354 _ kk) ?_
  refine own_step (T' := T354) (g' := (mkF m 4 #[.val (.ref a1)] [(.ref ns), (.ref ns)])) (fun _ kk => XS.dup X354.here hx rfl (hb hby dts_3) rfl rfl kk) ?_
  refine own_step (T' := T354) (g' := (mkF m 5 #[.val (.ref a1)] [(.ref a1), (.ref ns), (.ref ns)])) (fun _ kk => XS.aloadN X354.here hx rfl (hb hby dts_4) rfl rfl kk) ?_
  obtain ⟨T367, L367, _, h367, X367, e367, ⟨rfl, Nc, Kc, Sc⟩, st367⟩ := own_callC X354 hx hZ hown rfl (w109 hw) (w110 hw) (w112 hw) (w36 hw) (by decide) (a := ns) (g := (mkF m 5 #[.val (.ref a1)] [(.ref a1), (.ref ns), (.ref ns)])) rfl (by rw [hml]; rfl) (argsL := [(.ref a1)]) (rest := [(.ref ns)]) (rm_s2 l Z a0 hw ns a1 b kb ds zc _ F364 F366 ge357 ⟨F359, F360, F361, F362, F363⟩ ne355 ne356 hl SC hzc) e354 pd__Ljava_lang_StringBuilder__V rfl rfl (W := 1) (by show 2 * 0 + _ ≤ _; first | exact Nat.le_of_eq rfl | simp [own_cref own_of_ref]) (hb hby dts_5) (by decide) (by decide) (by decide) (by decide)
  have F368 := Fr.app F351 Nc
  have F369 := F359.keep Kc
  have F370 := F360.keep Kc (ninS ne355 nin0)
  have F371 := F361.keep Kc (ninS ne355 nin0)
  have F372 := F362.keep Kc (ninS ne355 nin0)
  have F373 := F363.keep Kc (ninS ne356 nin0)
  have F374 := F366.keep Kc
  have F375 := F364.keep Kc (allS ge357 all0)
  have F376 := F365.trans Kc (allS (Or.inr ng358) all0)
  refine own_step (T' := T367) (g' := (mkF m 8 #[.val (.ref a1)] [(.ref ns)])) (fun _ kk => st367 _ kk) ?_
  exact own_retA X367 hx hlk (t := (.object "java/lang/String")) hret rfl rfl rfl (hb hby dts_8) e367 ⟨ns, rfl, F368, F376, ng358, Sc⟩ (by decide) (by decide)
theorem des_0 : decode prog_19_method_6_code 0 = .ok (.aload_n 0, 1) := by decide +kernel
theorem des_1 : decode prog_19_method_6_code 1 = .ok (.iload_n 1, 1) := by decide +kernel
theorem des_2 : decode prog_19_method_6_code 2 = .ok (.invokevirtual 32, 3) := by decide +kernel
theorem des_5 : decode prog_19_method_6_code 5 = .ok (.istore_n 3, 1) := by decide +kernel
theorem des_6 : decode prog_19_method_6_code 6 = .ok (.iload_n 3, 1) := by decide +kernel
theorem des_7 : decode prog_19_method_6_code 7 = .ok (.bipush 92, 2) := by decide +kernel
theorem des_9 : decode prog_19_method_6_code 9 = .ok (.if_icmp .ne 7, 3) := by decide +kernel
theorem des_12 : decode prog_19_method_6_code 12 = .ok (.iload_n 2, 1) := by decide +kernel
theorem des_13 : decode prog_19_method_6_code 13 = .ok (.ifCond .ne 51, 3) := by decide +kernel
theorem des_16 : decode prog_19_method_6_code 16 = .ok (.iload_n 3, 1) := by decide +kernel
theorem des_17 : decode prog_19_method_6_code 17 = .ok (.bipush 32, 2) := by decide +kernel
theorem des_19 : decode prog_19_method_6_code 19 = .ok (.if_icmp .lt 9, 3) := by decide +kernel
theorem des_22 : decode prog_19_method_6_code 22 = .ok (.iload_n 3, 1) := by decide +kernel
theorem des_23 : decode prog_19_method_6_code 23 = .ok (.bipush 126, 2) := by decide +kernel
theorem des_25 : decode prog_19_method_6_code 25 = .ok (.if_icmp .le 43, 3) := by decide +kernel
theorem des_28 : decode prog_19_method_6_code 28 = .ok (.iload_n 3, 1) := by decide +kernel
theorem des_29 : decode prog_19_method_6_code 29 = .ok (.invokestatic 56, 3) := by decide +kernel
theorem des_32 : decode prog_19_method_6_code 32 = .ok (.ifCond .ne 32, 3) := by decide +kernel
theorem des_35 : decode prog_19_method_6_code 35 = .ok (.iload_n 3, 1) := by decide +kernel
theorem des_36 : decode prog_19_method_6_code 36 = .ok (.sipush 8232, 3) := by decide +kernel
theorem des_39 : decode prog_19_method_6_code 39 = .ok (.if_icmp .eq 25, 3) := by decide +kernel
theorem des_42 : decode prog_19_method_6_code 42 = .ok (.iload_n 3, 1) := by decide +kernel
theorem des_43 : decode prog_19_method_6_code 43 = .ok (.sipush 8233, 3) := by decide +kernel
theorem des_46 : decode prog_19_method_6_code 46 = .ok (.if_icmp .eq 18, 3) := by decide +kernel
theorem des_49 : decode prog_19_method_6_code 49 = .ok (.iload_n 3, 1) := by decide +kernel
theorem des_50 : decode prog_19_method_6_code 50 = .ok (.invokestatic 60, 3) := by decide +kernel
theorem des_53 : decode prog_19_method_6_code 53 = .ok (.ifCond .eq 15, 3) := by decide +kernel
theorem des_56 : decode prog_19_method_6_code 56 = .ok (.aload_n 0, 1) := by decide +kernel
theorem des_57 : decode prog_19_method_6_code 57 = .ok (.iload_n 1, 1) := by decide +kernel
theorem des_58 : decode prog_19_method_6_code 58 = .ok (.invokestatic 63, 3) := by decide +kernel
theorem des_61 : decode prog_19_method_6_code 61 = .ok (.ifCond .eq 7, 3) := by decide +kernel
theorem des_64 : decode prog_19_method_6_code 64 = .ok (.iconst 1, 1) := by decide +kernel
theorem des_65 : decode prog_19_method_6_code 65 = .ok (.goto 4, 3) := by decide +kernel
theorem des_68 : decode prog_19_method_6_code 68 = .ok (.iconst 0, 1) := by decide +kernel
theorem des_69 : decode prog_19_method_6_code 69 = .ok (.ireturn, 1) := by decide +kernel
set_option maxRecDepth 65536 in
set_option maxHeartbeats 40000000 in
theorem rm_es (l : Launch) (Z : State) (a0 : Array Value) (hw : ∀ d ∈ tables_1, d.before a0 Z = true) (a1 : Addr) (cs : List Int32) (zc : Int32) (fm : Value) (i : Nat) (h0 : Heap) (O0 : Old Z Z.heap.size h0) (hstr : own_Str Z h0 a1 cs) (hP : own_P cs) (hl : cs.length ≤ 4000) (SC : Sta Z Z.heap "java/lang/String" "COMPACT_STRINGS" "Z" (.int zc)) (hzc : ¬ zc = (0 : Int32)) (SI : Sta Z Z.heap "jdk/internal/util/Preconditions" "SIOOBE_FORMATTER" "Ljava/util/function/BiFunction;" fm) (rfm : fm.isRef = true) (hi : i < cs.length) :
    own_Con l Z (⟨"com/example/hradcany/hradcany/input/OneLine", "escapes", "(Ljava/lang/String;IZ)Z"⟩ : MethodName) prog_19_method_6_code 4 (some .boolean) ({ frames := 4, cells := 0, slots := 0, locals := 53 } : Room) #[(.ref a1), (.int (Int32.ofNat i)), (.int (0 : Int32))] h0 (fun v h L => v = some (.int (0 : Int32)) ∧ Fr Z.heap.size L ∧ h = h0) := by
  refine own_con (ls := #[.val (.ref a1), .val (.int (Int32.ofNat i)), .val (.int (0 : Int32)), .unset]) (plainFor_of_name pn_com_example_hradcany_hradcany_input_OneLine) (fun m => by first | (simp [entryFrame, mkF, argsToLocals, Value.category]; done) | rfl) ?_
  intro p e s m below meth c s₁ hx hby hml0 hown0 hnm0 hret0 hlk hZ X0 e0
  have hml : c.maxLocals = 4 := hml0
  have hown : s.vm.findClass "com/example/hradcany/hradcany/input/OneLine" = some m.cls := hown0
  have hnm : meth.name = "escapes" := hnm0
  have hret : meth.sig.returnType = (some .boolean) := hret0
  have F377 := Fr.nil Z.heap.size
  have F378 := Keep.refl h0 []
  refine own_step (T' := s₁) (g' := (mkF m 1 #[.val (.ref a1), .val (.int (Int32.ofNat i)), .val (.int (0 : Int32)), .unset] [(.ref a1)])) (fun _ kk => XS.aloadN X0.here hx rfl (hb hby des_0) rfl rfl kk) ?_
  refine own_step (T' := s₁) (g' := (mkF m 2 #[.val (.ref a1), .val (.int (Int32.ofNat i)), .val (.int (0 : Int32)), .unset] [(.int (Int32.ofNat i)), (.ref a1)])) (fun _ kk => XS.iloadN X0.here hx rfl (hb hby des_1) rfl kk) ?_
  obtain ⟨T380, L380, _, h380, X380, e380, ⟨rfl, Nq379, eh379⟩, st380⟩ := own_callV X0 hx hZ hown (w207 hw) (w208 hw) (w210 hw) (w209 hw) (w211 hw) (w36 hw) (by decide) (own_Str.exa hstr) (g := (mkF m 2 #[.val (.ref a1), .val (.int (Int32.ofNat i)), .val (.int (0 : Int32)), .unset] [(.int (Int32.ofNat i)), (.ref a1)])) rfl (by rw [hml]; rfl) (argsL := [(.int (Int32.ofNat i))]) (rest := []) (rm_ch l Z a0 hw a1 cs zc i fm _ O0 hstr hP.B hl hi SC hzc SI rfm) e0 pd__I_C rfl rfl (W := 0) (by show 2 * 0 + _ ≤ _; first | exact Nat.le_of_eq rfl | simp [own_cref own_of_ref]) (hb hby des_2) (by decide) (by decide) (by decide) (by decide)
  have F381 := Fr.app F377 Nq379
  have F382 := e380.trans eh379
  refine own_step (T' := T380) (g' := (mkF m 5 #[.val (.ref a1), .val (.int (Int32.ofNat i)), .val (.int (0 : Int32)), .unset] [(.int (cs.getD i 0))])) (fun _ kk => st380 _ kk) ?_
  have hr := hP.at hi
  refine own_step (T' := T380) (g' := (mkF m 6 #[.val (.ref a1), .val (.int (Int32.ofNat i)), .val (.int (0 : Int32)), .val (.int (cs.getD i 0))] [])) (fun _ kk => XS.istoreN X380.here hx rfl (hb hby des_5) rfl (l' := #[.val (.ref a1), .val (.int (Int32.ofNat i)), .val (.int (0 : Int32)), .val (.int (cs.getD i 0))]) rfl kk) ?_
  refine own_step (T' := T380) (g' := (mkF m 7 #[.val (.ref a1), .val (.int (Int32.ofNat i)), .val (.int (0 : Int32)), .val (.int (cs.getD i 0))] [(.int (cs.getD i 0))])) (fun _ kk => XS.iloadN X380.here hx rfl (hb hby des_6) rfl kk) ?_
  refine own_step (T' := T380) (g' := (mkF m 9 #[.val (.ref a1), .val (.int (Int32.ofNat i)), .val (.int (0 : Int32)), .val (.int (cs.getD i 0))] [(.int (92 : Int32)), (.int (cs.getD i 0))])) (fun _ kk => XS.bipush X380.here hx rfl (hb hby des_7) kk) ?_
  by_cases c383 : (cs.getD i 0) = (92 : Int32)
  · refine own_step (T' := T380) (g' := (mkF m 12 #[.val (.ref a1), .val (.int (Int32.ofNat i)), .val (.int (0 : Int32)), .val (.int (cs.getD i 0))] [])) (fun _ kk => XS.icmpNo X380.here hx rfl (hb hby des_9) rfl (teq c383).2 kk) ?_
    refine own_step (T' := T380) (g' := (mkF m 13 #[.val (.ref a1), .val (.int (Int32.ofNat i)), .val (.int (0 : Int32)), .val (.int (cs.getD i 0))] [(.int (0 : Int32))])) (fun _ kk => XS.iloadN X380.here hx rfl (hb hby des_12) rfl kk) ?_
    refine own_step (T' := T380) (g' := (mkF m 16 #[.val (.ref a1), .val (.int (Int32.ofNat i)), .val (.int (0 : Int32)), .val (.int (cs.getD i 0))] [])) (fun _ kk => XS.ifNo X380.here hx rfl (hb hby des_13) rfl ((if0 _ _).trans (teq rfl).2) kk) ?_
    refine own_step (T' := T380) (g' := (mkF m 17 #[.val (.ref a1), .val (.int (Int32.ofNat i)), .val (.int (0 : Int32)), .val (.int (cs.getD i 0))] [(.int (cs.getD i 0))])) (fun _ kk => XS.iloadN X380.here hx rfl (hb hby des_16) rfl kk) ?_
    refine own_step (T' := T380) (g' := (mkF m 19 #[.val (.ref a1), .val (.int (Int32.ofNat i)), .val (.int (0 : Int32)), .val (.int (cs.getD i 0))] [(.int (32 : Int32)), (.int (cs.getD i 0))])) (fun _ kk => XS.bipush X380.here hx rfl (hb hby des_17) kk) ?_
    refine own_step (T' := T380) (g' := (mkF m 22 #[.val (.ref a1), .val (.int (Int32.ofNat i)), .val (.int (0 : Int32)), .val (.int (cs.getD i 0))] [])) (fun _ kk => XS.icmpNo X380.here hx rfl (hb hby des_19) rfl (flt (own_nlt (by show (32 : Int) ≤ _; omega))).1 kk) ?_
    refine own_step (T' := T380) (g' := (mkF m 23 #[.val (.ref a1), .val (.int (Int32.ofNat i)), .val (.int (0 : Int32)), .val (.int (cs.getD i 0))] [(.int (cs.getD i 0))])) (fun _ kk => XS.iloadN X380.here hx rfl (hb hby des_22) rfl kk) ?_
    refine own_step (T' := T380) (g' := (mkF m 25 #[.val (.ref a1), .val (.int (Int32.ofNat i)), .val (.int (0 : Int32)), .val (.int (cs.getD i 0))] [(.int (126 : Int32)), (.int (cs.getD i 0))])) (fun _ kk => XS.bipush X380.here hx rfl (hb hby des_23) kk) ?_
    refine own_step (T' := T380) (g' := (mkF m 68 #[.val (.ref a1), .val (.int (Int32.ofNat i)), .val (.int (0 : Int32)), .val (.int (cs.getD i 0))] [])) (fun _ kk => XS.icmpYes X380.here hx rfl (pc0 := 25) (pc' := 68) rfl (hb hby des_25) rfl (flt (own_nlt (by show _ ≤ (126 : Int); omega))).2.2.2 (by decide) (by decide) kk) ?_
    refine own_step (T' := T380) (g' := (mkF m 69 #[.val (.ref a1), .val (.int (Int32.ofNat i)), .val (.int (0 : Int32)), .val (.int (cs.getD i 0))] [(.int (0 : Int32))])) (fun _ kk => XS.iconst X380.here hx rfl (hb hby des_68) kk) ?_
    exact own_retN X380 hx hlk (t := .boolean) hret (by simp) (hb hby des_69) F382 ⟨rfl, F381, rfl⟩ (by decide) (by decide)
  · refine own_step (T' := T380) (g' := (mkF m 16 #[.val (.ref a1), .val (.int (Int32.ofNat i)), .val (.int (0 : Int32)), .val (.int (cs.getD i 0))] [])) (fun _ kk => XS.icmpYes X380.here hx rfl (pc0 := 9) (pc' := 16) rfl (hb hby des_9) rfl (feq c383).2 (by decide) (by decide) kk) ?_
    refine own_step (T' := T380) (g' := (mkF m 17 #[.val (.ref a1), .val (.int (Int32.ofNat i)), .val (.int (0 : Int32)), .val (.int (cs.getD i 0))] [(.int (cs.getD i 0))])) (fun _ kk => XS.iloadN X380.here hx rfl (hb hby des_16) rfl kk) ?_
    refine own_step (T' := T380) (g' := (mkF m 19 #[.val (.ref a1), .val (.int (Int32.ofNat i)), .val (.int (0 : Int32)), .val (.int (cs.getD i 0))] [(.int (32 : Int32)), (.int (cs.getD i 0))])) (fun _ kk => XS.bipush X380.here hx rfl (hb hby des_17) kk) ?_
    refine own_step (T' := T380) (g' := (mkF m 22 #[.val (.ref a1), .val (.int (Int32.ofNat i)), .val (.int (0 : Int32)), .val (.int (cs.getD i 0))] [])) (fun _ kk => XS.icmpNo X380.here hx rfl (hb hby des_19) rfl (flt (own_nlt (by show (32 : Int) ≤ _; omega))).1 kk) ?_
    refine own_step (T' := T380) (g' := (mkF m 23 #[.val (.ref a1), .val (.int (Int32.ofNat i)), .val (.int (0 : Int32)), .val (.int (cs.getD i 0))] [(.int (cs.getD i 0))])) (fun _ kk => XS.iloadN X380.here hx rfl (hb hby des_22) rfl kk) ?_
    refine own_step (T' := T380) (g' := (mkF m 25 #[.val (.ref a1), .val (.int (Int32.ofNat i)), .val (.int (0 : Int32)), .val (.int (cs.getD i 0))] [(.int (126 : Int32)), (.int (cs.getD i 0))])) (fun _ kk => XS.bipush X380.here hx rfl (hb hby des_23) kk) ?_
    refine own_step (T' := T380) (g' := (mkF m 68 #[.val (.ref a1), .val (.int (Int32.ofNat i)), .val (.int (0 : Int32)), .val (.int (cs.getD i 0))] [])) (fun _ kk => XS.icmpYes X380.here hx rfl (pc0 := 25) (pc' := 68) rfl (hb hby des_25) rfl (flt (own_nlt (by show _ ≤ (126 : Int); omega))).2.2.2 (by decide) (by decide) kk) ?_
    refine own_step (T' := T380) (g' := (mkF m 69 #[.val (.ref a1), .val (.int (Int32.ofNat i)), .val (.int (0 : Int32)), .val (.int (cs.getD i 0))] [(.int (0 : Int32))])) (fun _ kk => XS.iconst X380.here hx rfl (hb hby des_68) kk) ?_
    exact own_retN X380 hx hlk (t := .boolean) hret (by simp) (hb hby des_69) F382 ⟨rfl, F381, rfl⟩ (by decide) (by decide)
theorem dwt_0 : decode prog_19_method_4_code 0 = .ok (.iconst 0, 1) := by decide +kernel
theorem dwt_1 : decode prog_19_method_4_code 1 = .ok (.istore_n 2, 1) := by decide +kernel
theorem dwt_2 : decode prog_19_method_4_code 2 = .ok (.iload_n 2, 1) := by decide +kernel
theorem dwt_3 : decode prog_19_method_4_code 3 = .ok (.aload_n 0, 1) := by decide +kernel
theorem dwt_4 : decode prog_19_method_4_code 4 = .ok (.invokevirtual 13, 3) := by decide +kernel
theorem dwt_7 : decode prog_19_method_4_code 7 = .ok (.if_icmp .ge 18, 3) := by decide +kernel
theorem dwt_10 : decode prog_19_method_4_code 10 = .ok (.aload_n 0, 1) := by decide +kernel
theorem dwt_11 : decode prog_19_method_4_code 11 = .ok (.iload_n 2, 1) := by decide +kernel
theorem dwt_12 : decode prog_19_method_4_code 12 = .ok (.iload_n 1, 1) := by decide +kernel
theorem dwt_13 : decode prog_19_method_4_code 13 = .ok (.invokestatic 19, 3) := by decide +kernel
theorem dwt_16 : decode prog_19_method_4_code 16 = .ok (.ifCond .ne 9, 3) := by decide +kernel
theorem dwt_19 : decode prog_19_method_4_code 19 = .ok (.iinc 2 1, 3) := by decide +kernel
theorem dwt_22 : decode prog_19_method_4_code 22 = .ok (.goto (-20), 3) := by decide +kernel
theorem dwt_25 : decode prog_19_method_4_code 25 = .ok (.aload_n 0, 1) := by decide +kernel
theorem dwt_26 : decode prog_19_method_4_code 26 = .ok (.astore_n 3, 1) := by decide +kernel
theorem dwt_27 : decode prog_19_method_4_code 27 = .ok (.iload_n 2, 1) := by decide +kernel
theorem dwt_28 : decode prog_19_method_4_code 28 = .ok (.aload_n 0, 1) := by decide +kernel
theorem dwt_29 : decode prog_19_method_4_code 29 = .ok (.invokevirtual 13, 3) := by decide +kernel
theorem dwt_32 : decode prog_19_method_4_code 32 = .ok (.if_icmp .ge 142, 3) := by decide +kernel
theorem dwt_35 : decode prog_19_method_4_code 35 = .ok (.new 23, 3) := by decide +kernel
theorem dwt_38 : decode prog_19_method_4_code 38 = .ok (.dup, 1) := by decide +kernel
theorem dwt_39 : decode prog_19_method_4_code 39 = .ok (.aload_n 0, 1) := by decide +kernel
theorem dwt_40 : decode prog_19_method_4_code 40 = .ok (.invokevirtual 13, 3) := by decide +kernel
theorem dwt_43 : decode prog_19_method_4_code 43 = .ok (.bipush 16, 2) := by decide +kernel
theorem dwt_45 : decode prog_19_method_4_code 45 = .ok (.iadd, 1) := by decide +kernel
theorem dwt_46 : decode prog_19_method_4_code 46 = .ok (.invokespecial 25, 3) := by decide +kernel
theorem dwt_49 : decode prog_19_method_4_code 49 = .ok (.aload_n 0, 1) := by decide +kernel
theorem dwt_50 : decode prog_19_method_4_code 50 = .ok (.iconst 0, 1) := by decide +kernel
theorem dwt_51 : decode prog_19_method_4_code 51 = .ok (.iload_n 2, 1) := by decide +kernel
theorem dwt_52 : decode prog_19_method_4_code 52 = .ok (.invokevirtual 28, 3) := by decide +kernel
theorem dwt_55 : decode prog_19_method_4_code 55 = .ok (.astore 4, 2) := by decide +kernel
theorem dwt_57 : decode prog_19_method_4_code 57 = .ok (.iload_n 2, 1) := by decide +kernel
theorem dwt_58 : decode prog_19_method_4_code 58 = .ok (.istore 5, 2) := by decide +kernel
theorem dwt_60 : decode prog_19_method_4_code 60 = .ok (.iload 5, 2) := by decide +kernel
theorem dwt_62 : decode prog_19_method_4_code 62 = .ok (.aload_n 0, 1) := by decide +kernel
theorem dwt_63 : decode prog_19_method_4_code 63 = .ok (.invokevirtual 13, 3) := by decide +kernel
theorem dwt_66 : decode prog_19_method_4_code 66 = .ok (.if_icmp .ge 102, 3) := by decide +kernel
theorem dwt_69 : decode prog_19_method_4_code 69 = .ok (.aload_n 0, 1) := by decide +kernel
theorem dwt_70 : decode prog_19_method_4_code 70 = .ok (.iload 5, 2) := by decide +kernel
theorem dwt_72 : decode prog_19_method_4_code 72 = .ok (.invokevirtual 32, 3) := by decide +kernel
theorem dwt_75 : decode prog_19_method_4_code 75 = .ok (.istore 6, 2) := by decide +kernel
theorem dwt_77 : decode prog_19_method_4_code 77 = .ok (.iload 6, 2) := by decide +kernel
theorem dwt_79 : decode prog_19_method_4_code 79 = .ok (.bipush 92, 2) := by decide +kernel
theorem dwt_81 : decode prog_19_method_4_code 81 = .ok (.if_icmp .ne 18, 3) := by decide +kernel
theorem dwt_84 : decode prog_19_method_4_code 84 = .ok (.iload_n 1, 1) := by decide +kernel
theorem dwt_85 : decode prog_19_method_4_code 85 = .ok (.ifCond .eq 14, 3) := by decide +kernel
theorem dwt_88 : decode prog_19_method_4_code 88 = .ok (.aload 4, 2) := by decide +kernel
theorem dwt_90 : decode prog_19_method_4_code 90 = .ok (.ldc 36, 2) := by decide +kernel
theorem dwt_92 : decode prog_19_method_4_code 92 = .ok (.invokevirtual 38, 3) := by decide +kernel
theorem dwt_95 : decode prog_19_method_4_code 95 = .ok (.pop, 1) := by decide +kernel
theorem dwt_96 : decode prog_19_method_4_code 96 = .ok (.goto 66, 3) := by decide +kernel
theorem dwt_99 : decode prog_19_method_4_code 99 = .ok (.aload_n 0, 1) := by decide +kernel
theorem dwt_100 : decode prog_19_method_4_code 100 = .ok (.iload 5, 2) := by decide +kernel
theorem dwt_102 : decode prog_19_method_4_code 102 = .ok (.iload_n 1, 1) := by decide +kernel
theorem dwt_103 : decode prog_19_method_4_code 103 = .ok (.invokestatic 19, 3) := by decide +kernel
theorem dwt_106 : decode prog_19_method_4_code 106 = .ok (.ifCond .eq 48, 3) := by decide +kernel
theorem dwt_109 : decode prog_19_method_4_code 109 = .ok (.aload 4, 2) := by decide +kernel
theorem dwt_111 : decode prog_19_method_4_code 111 = .ok (.ldc 41, 2) := by decide +kernel
theorem dwt_113 : decode prog_19_method_4_code 113 = .ok (.invokevirtual 38, 3) := by decide +kernel
theorem dwt_116 : decode prog_19_method_4_code 116 = .ok (.pop, 1) := by decide +kernel
theorem dwt_117 : decode prog_19_method_4_code 117 = .ok (.bipush 12, 2) := by decide +kernel
theorem dwt_119 : decode prog_19_method_4_code 119 = .ok (.istore 7, 2) := by decide +kernel
theorem dwt_121 : decode prog_19_method_4_code 121 = .ok (.iload 7, 2) := by decide +kernel
theorem dwt_123 : decode prog_19_method_4_code 123 = .ok (.ifCond .lt 28, 3) := by decide +kernel
theorem dwt_126 : decode prog_19_method_4_code 126 = .ok (.aload 4, 2) := by decide +kernel
theorem dwt_128 : decode prog_19_method_4_code 128 = .ok (.iload 6, 2) := by decide +kernel
theorem dwt_130 : decode prog_19_method_4_code 130 = .ok (.iload 7, 2) := by decide +kernel
theorem dwt_132 : decode prog_19_method_4_code 132 = .ok (.ishr, 1) := by decide +kernel
theorem dwt_133 : decode prog_19_method_4_code 133 = .ok (.bipush 15, 2) := by decide +kernel
theorem dwt_135 : decode prog_19_method_4_code 135 = .ok (.iand, 1) := by decide +kernel
theorem dwt_136 : decode prog_19_method_4_code 136 = .ok (.bipush 16, 2) := by decide +kernel
theorem dwt_138 : decode prog_19_method_4_code 138 = .ok (.invokestatic 43, 3) := by decide +kernel
theorem dwt_141 : decode prog_19_method_4_code 141 = .ok (.invokevirtual 49, 3) := by decide +kernel
theorem dwt_144 : decode prog_19_method_4_code 144 = .ok (.pop, 1) := by decide +kernel
theorem dwt_145 : decode prog_19_method_4_code 145 = .ok (.iinc 7 (-4), 3) := by decide +kernel
theorem dwt_148 : decode prog_19_method_4_code 148 = .ok (.goto (-27), 3) := by decide +kernel
theorem dwt_151 : decode prog_19_method_4_code 151 = .ok (.goto 11, 3) := by decide +kernel
theorem dwt_154 : decode prog_19_method_4_code 154 = .ok (.aload 4, 2) := by decide +kernel
theorem dwt_156 : decode prog_19_method_4_code 156 = .ok (.iload 6, 2) := by decide +kernel
theorem dwt_158 : decode prog_19_method_4_code 158 = .ok (.invokevirtual 49, 3) := by decide +kernel
theorem dwt_161 : decode prog_19_method_4_code 161 = .ok (.pop, 1) := by decide +kernel
theorem dwt_162 : decode prog_19_method_4_code 162 = .ok (.iinc 5 1, 3) := by decide +kernel
theorem dwt_165 : decode prog_19_method_4_code 165 = .ok (.goto (-105), 3) := by decide +kernel
theorem dwt_168 : decode prog_19_method_4_code 168 = .ok (.aload 4, 2) := by decide +kernel
theorem dwt_170 : decode prog_19_method_4_code 170 = .ok (.invokevirtual 52, 3) := by decide +kernel
theorem dwt_173 : decode prog_19_method_4_code 173 = .ok (.astore_n 3, 1) := by decide +kernel
theorem dwt_174 : decode prog_19_method_4_code 174 = .ok (.aload_n 3, 1) := by decide +kernel
theorem dwt_175 : decode prog_19_method_4_code 175 = .ok (.areturn, 1) := by decide +kernel
set_option maxRecDepth 65536 in
set_option maxHeartbeats 40000000 in
theorem rm_wt (l : Launch) (Z : State) (a0 : Array Value) (hw : ∀ d ∈ tables_1, d.before a0 Z = true) (a1 : Addr) (cs : List Int32) (zc : Int32) (fm : Value) (h0 : Heap) (O0 : Old Z Z.heap.size h0) (hstr : own_Str Z h0 a1 cs) (hP : own_P cs) (hl : cs.length ≤ 4000) (SC : Sta Z Z.heap "java/lang/String" "COMPACT_STRINGS" "Z" (.int zc)) (hzc : ¬ zc = (0 : Int32)) (SI : Sta Z Z.heap "jdk/internal/util/Preconditions" "SIOOBE_FORMATTER" "Ljava/util/function/BiFunction;" fm) (rfm : fm.isRef = true) :
    own_Con l Z (⟨"com/example/hradcany/hradcany/input/OneLine", "written", "(Ljava/lang/String;Z)Ljava/lang/String;"⟩ : MethodName) prog_19_method_4_code 8 (some (.object "java/lang/String")) ({ frames := 6, cells := 0, slots := 0, locals := 110 } : Room) #[(.ref a1), (.int (0 : Int32))] h0 (fun v h L => v = some (.ref a1) ∧ Fr Z.heap.size L ∧ h = h0) := by
  refine own_con (ls := #[.val (.ref a1), .val (.int (0 : Int32)), .unset, .unset, .unset, .unset, .unset, .unset]) (plainFor_of_name pn_com_example_hradcany_hradcany_input_OneLine) (fun m => by first | (simp [entryFrame, mkF, argsToLocals, Value.category]; done) | rfl) ?_
  intro p e s m below meth c s₁ hx hby hml0 hown0 hnm0 hret0 hlk hZ X0 e0
  have hml : c.maxLocals = 8 := hml0
  have hown : s.vm.findClass "com/example/hradcany/hradcany/input/OneLine" = some m.cls := hown0
  have hnm : meth.name = "written" := hnm0
  have hret : meth.sig.returnType = (some (.object "java/lang/String")) := hret0
  have F384 := Fr.nil Z.heap.size
  have F385 := Keep.refl h0 []
  refine own_step (T' := s₁) (g' := (mkF m 1 #[.val (.ref a1), .val (.int (0 : Int32)), .unset, .unset, .unset, .unset, .unset, .unset] [(.int (0 : Int32))])) (fun _ kk => XS.iconst X0.here hx rfl (hb hby dwt_0) kk) ?_
  refine own_step (T' := s₁) (g' := (mkF m 2 #[.val (.ref a1), .val (.int (0 : Int32)), .val (.int (0 : Int32)), .unset, .unset, .unset, .unset, .unset] [])) (fun _ kk => XS.istoreN X0.here hx rfl (hb hby dwt_1) rfl (l' := #[.val (.ref a1), .val (.int (0 : Int32)), .val (.int (0 : Int32)), .unset, .unset, .unset, .unset, .unset]) rfl kk) ?_
  have lp : ∀ (k i : Nat) (T : State) (locs : List Loc), i + k = cs.length → Stand p l e ({ frames := 6, cells := 0, slots := 0, locals := 110 } : Room) s m #[.ref a1, .int (0 : Int32)] below meth c T locs 0 0 → T.heap = h0 → Fr Z.heap.size locs → own_Fin p e below (own_PostN s ({ frames := 6, cells := 0, slots := 0, locals := 110 } : Room) (fun v h L => v = some (.ref a1) ∧ Fr Z.heap.size L ∧ h = h0)) T (mkF m 2 #[.val (.ref a1), .val (.int (0 : Int32)), .val (.int (Int32.ofNat i)), .unset, .unset, .unset, .unset, .unset] []) := by
    intro k
    induction k with
    | zero =>
      intro i T locs hik X1 q1 N1
      refine own_step (T' := T) (g' := (mkF m 3 #[.val (.ref a1), .val (.int (0 : Int32)), .val (.int (Int32.ofNat i)), .unset, .unset, .unset, .unset, .unset] [(.int (Int32.ofNat i))])) (fun _ kk => XS.iloadN X1.here hx rfl (hb hby dwt_2) rfl kk) ?_
      refine own_step (T' := T) (g' := (mkF m 4 #[.val (.ref a1), .val (.int (0 : Int32)), .val (.int (Int32.ofNat i)), .unset, .unset, .unset, .unset, .unset] [(.ref a1), (.int (Int32.ofNat i))])) (fun _ kk => XS.aloadN X1.here hx rfl (hb hby dwt_3) rfl rfl kk) ?_
      obtain ⟨T387, L387, _, h387, X387, e387, ⟨rfl, Nq386, eh386⟩, st387⟩ := own_callV X1 hx hZ hown (w154 hw) (w155 hw) (w157 hw) (w156 hw) (w158 hw) (w36 hw) (by decide) (own_Str.exa hstr) (g := (mkF m 4 #[.val (.ref a1), .val (.int (0 : Int32)), .val (.int (Int32.ofNat i)), .unset, .unset, .unset, .unset, .unset] [(.ref a1), (.int (Int32.ofNat i))])) rfl (by rw [hml]; rfl) (argsL := []) (rest := [(.int (Int32.ofNat i))]) (rm_ln l Z a0 hw a1 cs zc _ O0 hstr SC hzc) q1 pd___I rfl rfl (W := 1) (by show 2 * 0 + _ ≤ _; first | exact Nat.le_of_eq rfl | simp [own_cref own_of_ref]) (hb hby dwt_4) (by decide) (by decide) (by decide) (by decide)
      have F388 := Fr.app N1 Nq386
      have F389 := e387.trans eh386
      refine own_step (T' := T387) (g' := (mkF m 7 #[.val (.ref a1), .val (.int (0 : Int32)), .val (.int (Int32.ofNat i)), .unset, .unset, .unset, .unset, .unset] [(.int (Int32.ofNat cs.length)), (.int (Int32.ofNat i))])) (fun _ kk => st387 _ kk) ?_
      refine own_step (T' := T387) (g' := (mkF m 25 #[.val (.ref a1), .val (.int (0 : Int32)), .val (.int (Int32.ofNat i)), .unset, .unset, .unset, .unset, .unset] [])) (fun _ kk => XS.icmpYes X387.here hx rfl (pc0 := 7) (pc' := 25) rfl (hb hby dwt_7) rfl (flt (own_nltn (by omega) (by omega))).2.1 (by decide) (by decide) kk) ?_
      refine own_step (T' := T387) (g' := (mkF m 26 #[.val (.ref a1), .val (.int (0 : Int32)), .val (.int (Int32.ofNat i)), .unset, .unset, .unset, .unset, .unset] [(.ref a1)])) (fun _ kk => XS.aloadN X387.here hx rfl (hb hby dwt_25) rfl rfl kk) ?_
      refine own_step (T' := T387) (g' := (mkF m 27 #[.val (.ref a1), .val (.int (0 : Int32)), .val (.int (Int32.ofNat i)), .val (.ref a1), .unset, .unset, .unset, .unset] [])) (fun _ kk => XS.astoreN X387.here hx rfl (hb hby dwt_26) rfl rfl (l' := #[.val (.ref a1), .val (.int (0 : Int32)), .val (.int (Int32.ofNat i)), .val (.ref a1), .unset, .unset, .unset, .unset]) rfl kk) ?_
      refine own_step (T' := T387) (g' := (mkF m 28 #[.val (.ref a1), .val (.int (0 : Int32)), .val (.int (Int32.ofNat i)), .val (.ref a1), .unset, .unset, .unset, .unset] [(.int (Int32.ofNat i))])) (fun _ kk => XS.iloadN X387.here hx rfl (hb hby dwt_27) rfl kk) ?_
      refine own_step (T' := T387) (g' := (mkF m 29 #[.val (.ref a1), .val (.int (0 : Int32)), .val (.int (Int32.ofNat i)), .val (.ref a1), .unset, .unset, .unset, .unset] [(.ref a1), (.int (Int32.ofNat i))])) (fun _ kk => XS.aloadN X387.here hx rfl (hb hby dwt_28) rfl rfl kk) ?_
      obtain ⟨T391, L391, _, h391, X391, e391, ⟨rfl, Nq390, eh390⟩, st391⟩ := own_callV X387 hx hZ hown (w154 hw) (w155 hw) (w157 hw) (w156 hw) (w158 hw) (w36 hw) (by decide) (own_Str.exa hstr) (g := (mkF m 29 #[.val (.ref a1), .val (.int (0 : Int32)), .val (.int (Int32.ofNat i)), .val (.ref a1), .unset, .unset, .unset, .unset] [(.ref a1), (.int (Int32.ofNat i))])) rfl (by rw [hml]; rfl) (argsL := []) (rest := [(.int (Int32.ofNat i))]) (rm_ln l Z a0 hw a1 cs zc _ O0 hstr SC hzc) F389 pd___I rfl rfl (W := 1) (by show 2 * 0 + _ ≤ _; first | exact Nat.le_of_eq rfl | simp [own_cref own_of_ref]) (hb hby dwt_29) (by decide) (by decide) (by decide) (by decide)
      have F392 := Fr.app F388 Nq390
      have F393 := e391.trans eh390
      refine own_step (T' := T391) (g' := (mkF m 32 #[.val (.ref a1), .val (.int (0 : Int32)), .val (.int (Int32.ofNat i)), .val (.ref a1), .unset, .unset, .unset, .unset] [(.int (Int32.ofNat cs.length)), (.int (Int32.ofNat i))])) (fun _ kk => st391 _ kk) ?_
      refine own_step (T' := T391) (g' := (mkF m 174 #[.val (.ref a1), .val (.int (0 : Int32)), .val (.int (Int32.ofNat i)), .val (.ref a1), .unset, .unset, .unset, .unset] [])) (fun _ kk => XS.icmpYes X391.here hx rfl (pc0 := 32) (pc' := 174) rfl (hb hby dwt_32) rfl (flt (own_nltn (by omega) (by omega))).2.1 (by decide) (by decide) kk) ?_
      refine own_step (T' := T391) (g' := (mkF m 175 #[.val (.ref a1), .val (.int (0 : Int32)), .val (.int (Int32.ofNat i)), .val (.ref a1), .unset, .unset, .unset, .unset] [(.ref a1)])) (fun _ kk => XS.aloadN X391.here hx rfl (hb hby dwt_174) rfl rfl kk) ?_
      exact own_retA X391 hx hlk (t := (.object "java/lang/String")) hret rfl rfl rfl (hb hby dwt_175) F393 ⟨rfl, F392, rfl⟩ (by decide) (by decide)
    | succ k ih =>
      intro i T locs hik X1 q1 N1
      refine own_step (T' := T) (g' := (mkF m 3 #[.val (.ref a1), .val (.int (0 : Int32)), .val (.int (Int32.ofNat i)), .unset, .unset, .unset, .unset, .unset] [(.int (Int32.ofNat i))])) (fun _ kk => XS.iloadN X1.here hx rfl (hb hby dwt_2) rfl kk) ?_
      refine own_step (T' := T) (g' := (mkF m 4 #[.val (.ref a1), .val (.int (0 : Int32)), .val (.int (Int32.ofNat i)), .unset, .unset, .unset, .unset, .unset] [(.ref a1), (.int (Int32.ofNat i))])) (fun _ kk => XS.aloadN X1.here hx rfl (hb hby dwt_3) rfl rfl kk) ?_
      obtain ⟨T395, L395, _, h395, X395, e395, ⟨rfl, Nq394, eh394⟩, st395⟩ := own_callV X1 hx hZ hown (w154 hw) (w155 hw) (w157 hw) (w156 hw) (w158 hw) (w36 hw) (by decide) (own_Str.exa hstr) (g := (mkF m 4 #[.val (.ref a1), .val (.int (0 : Int32)), .val (.int (Int32.ofNat i)), .unset, .unset, .unset, .unset, .unset] [(.ref a1), (.int (Int32.ofNat i))])) rfl (by rw [hml]; rfl) (argsL := []) (rest := [(.int (Int32.ofNat i))]) (rm_ln l Z a0 hw a1 cs zc _ O0 hstr SC hzc) q1 pd___I rfl rfl (W := 1) (by show 2 * 0 + _ ≤ _; first | exact Nat.le_of_eq rfl | simp [own_cref own_of_ref]) (hb hby dwt_4) (by decide) (by decide) (by decide) (by decide)
      have F396 := Fr.app N1 Nq394
      have F397 := e395.trans eh394
      refine own_step (T' := T395) (g' := (mkF m 7 #[.val (.ref a1), .val (.int (0 : Int32)), .val (.int (Int32.ofNat i)), .unset, .unset, .unset, .unset, .unset] [(.int (Int32.ofNat cs.length)), (.int (Int32.ofNat i))])) (fun _ kk => st395 _ kk) ?_
      refine own_step (T' := T395) (g' := (mkF m 10 #[.val (.ref a1), .val (.int (0 : Int32)), .val (.int (Int32.ofNat i)), .unset, .unset, .unset, .unset, .unset] [])) (fun _ kk => XS.icmpNo X395.here hx rfl (hb hby dwt_7) rfl (tlt (own_ltn (by omega) (by omega))).2.1 kk) ?_
      refine own_step (T' := T395) (g' := (mkF m 11 #[.val (.ref a1), .val (.int (0 : Int32)), .val (.int (Int32.ofNat i)), .unset, .unset, .unset, .unset, .unset] [(.ref a1)])) (fun _ kk => XS.aloadN X395.here hx rfl (hb hby dwt_10) rfl rfl kk) ?_
      refine own_step (T' := T395) (g' := (mkF m 12 #[.val (.ref a1), .val (.int (0 : Int32)), .val (.int (Int32.ofNat i)), .unset, .unset, .unset, .unset, .unset] [(.int (Int32.ofNat i)), (.ref a1)])) (fun _ kk => XS.iloadN X395.here hx rfl (hb hby dwt_11) rfl kk) ?_
      refine own_step (T' := T395) (g' := (mkF m 13 #[.val (.ref a1), .val (.int (0 : Int32)), .val (.int (Int32.ofNat i)), .unset, .unset, .unset, .unset, .unset] [(.int (0 : Int32)), (.int (Int32.ofNat i)), (.ref a1)])) (fun _ kk => XS.iloadN X395.here hx rfl (hb hby dwt_12) rfl kk) ?_
      obtain ⟨T399, L399, _, h399, X399, e399, ⟨rfl, Nq398, eh398⟩, st399⟩ := own_callS X395 hx hZ hown (w204 hw) (w205 hw) (w206 hw) (w149 hw) (by decide) (g := (mkF m 13 #[.val (.ref a1), .val (.int (0 : Int32)), .val (.int (Int32.ofNat i)), .unset, .unset, .unset, .unset, .unset] [(.int (0 : Int32)), (.int (Int32.ofNat i)), (.ref a1)])) rfl (by rw [hml]; rfl) (argsL := [(.ref a1), (.int (Int32.ofNat i)), (.int (0 : Int32))]) (rest := []) (rm_es l Z a0 hw a1 cs zc fm i _ O0 hstr hP hl SC hzc SI rfm (by omega)) F397 pd__Ljava_lang_String_IZ_Z rfl rfl (W := 0) (by show 2 * 0 + _ ≤ _; first | exact Nat.le_of_eq rfl | simp [own_cref own_of_ref]) (hb hby dwt_13) (by decide) (by decide) (by decide) (by decide)
      have F400 := Fr.app F396 Nq398
      have F401 := e399.trans eh398
      refine own_step (T' := T399) (g' := (mkF m 16 #[.val (.ref a1), .val (.int (0 : Int32)), .val (.int (Int32.ofNat i)), .unset, .unset, .unset, .unset, .unset] [(.int (0 : Int32))])) (fun _ kk => st399 _ kk) ?_
      refine own_step (T' := T399) (g' := (mkF m 19 #[.val (.ref a1), .val (.int (0 : Int32)), .val (.int (Int32.ofNat i)), .unset, .unset, .unset, .unset, .unset] [])) (fun _ kk => XS.ifNo X399.here hx rfl (hb hby dwt_16) rfl ((if0 _ _).trans (teq rfl).2) kk) ?_
      refine own_step (T' := T399) (g' := (mkF m 22 #[.val (.ref a1), .val (.int (0 : Int32)), .val (.int ((Int32.ofNat i) + (1 : Int32))), .unset, .unset, .unset, .unset, .unset] [])) (fun _ kk => XS.iinc X399.here hx rfl (hb hby dwt_19) rfl (l' := #[.val (.ref a1), .val (.int (0 : Int32)), .val (.int ((Int32.ofNat i) + (1 : Int32))), .unset, .unset, .unset, .unset, .unset]) rfl kk) ?_
      refine own_step (T' := T399) (g' := (mkF m 2 #[.val (.ref a1), .val (.int (0 : Int32)), .val (.int ((Int32.ofNat i) + (1 : Int32))), .unset, .unset, .unset, .unset, .unset] [])) (fun _ kk => XS.goto X399.here hx rfl (pc0 := 22) (pc' := 2) rfl (hb hby dwt_22) (by decide) (by decide) kk) ?_
      rw [own_one]
      exact ih (i + 1) _ _ (by omega) X399 F401 F400
  exact lp cs.length 0 _ _ (by omega) X0 e0 F384
theorem dof_0 : decode prog_19_method_2_code 0 = .ok (.aload_n 0, 1) := by decide +kernel
theorem dof_1 : decode prog_19_method_2_code 1 = .ok (.iconst 0, 1) := by decide +kernel
theorem dof_2 : decode prog_19_method_2_code 2 = .ok (.invokestatic 7, 3) := by decide +kernel
theorem dof_5 : decode prog_19_method_2_code 5 = .ok (.areturn, 1) := by decide +kernel
set_option maxRecDepth 65536 in
set_option maxHeartbeats 40000000 in
theorem rm_of (l : Launch) (Z : State) (a0 : Array Value) (hw : ∀ d ∈ tables_1, d.before a0 Z = true) (a1 : Addr) (cs : List Int32) (zc : Int32) (fm : Value) (h0 : Heap) (O0 : Old Z Z.heap.size h0) (hstr : own_Str Z h0 a1 cs) (hP : own_P cs) (hl : cs.length ≤ 4000) (SC : Sta Z Z.heap "java/lang/String" "COMPACT_STRINGS" "Z" (.int zc)) (hzc : ¬ zc = (0 : Int32)) (SI : Sta Z Z.heap "jdk/internal/util/Preconditions" "SIOOBE_FORMATTER" "Ljava/util/function/BiFunction;" fm) (rfm : fm.isRef = true) :
    own_Con l Z (⟨"com/example/hradcany/hradcany/input/OneLine", "of", "(Ljava/lang/String;)Ljava/lang/String;"⟩ : MethodName) prog_19_method_2_code 1 (some (.object "java/lang/String")) ({ frames := 7, cells := 0, slots := 0, locals := 129 } : Room) #[(.ref a1)] h0 (fun v h L => v = some (.ref a1) ∧ Fr Z.heap.size L ∧ h = h0) := by
  refine own_con (ls := #[.val (.ref a1)]) (plainFor_of_name pn_com_example_hradcany_hradcany_input_OneLine) (fun m => by first | (simp [entryFrame, mkF, argsToLocals, Value.category]; done) | rfl) ?_
  intro p e s m below meth c s₁ hx hby hml0 hown0 hnm0 hret0 hlk hZ X0 e0
  have hml : c.maxLocals = 1 := hml0
  have hown : s.vm.findClass "com/example/hradcany/hradcany/input/OneLine" = some m.cls := hown0
  have hnm : meth.name = "of" := hnm0
  have hret : meth.sig.returnType = (some (.object "java/lang/String")) := hret0
  have F402 := Fr.nil Z.heap.size
  have F403 := Keep.refl h0 []
  refine own_step (T' := s₁) (g' := (mkF m 1 #[.val (.ref a1)] [(.ref a1)])) (fun _ kk => XS.aloadN X0.here hx rfl (hb hby dof_0) rfl rfl kk) ?_
  refine own_step (T' := s₁) (g' := (mkF m 2 #[.val (.ref a1)] [(.int (0 : Int32)), (.ref a1)])) (fun _ kk => XS.iconst X0.here hx rfl (hb hby dof_1) kk) ?_
  obtain ⟨T405, L405, _, h405, X405, e405, ⟨rfl, Nq404, eh404⟩, st405⟩ := own_callS X0 hx hZ hown (w151 hw) (w152 hw) (w153 hw) (w149 hw) (by decide) (g := (mkF m 2 #[.val (.ref a1)] [(.int (0 : Int32)), (.ref a1)])) rfl (by rw [hml]; rfl) (argsL := [(.ref a1), (.int (0 : Int32))]) (rest := []) (rm_wt l Z a0 hw a1 cs zc fm _ O0 hstr hP hl SC hzc SI rfm) e0 pd__Ljava_lang_String_Z_Ljava_lang_String_ rfl rfl (W := 0) (by show 2 * 0 + _ ≤ _; first | exact Nat.le_of_eq rfl | simp [own_cref own_of_ref]) (hb hby dof_2) (by decide) (by decide) (by decide) (by decide)
  have F406 := Fr.app F402 Nq404
  have F407 := e405.trans eh404
  refine own_step (T' := T405) (g' := (mkF m 5 #[.val (.ref a1)] [(.ref a1)])) (fun _ kk => st405 _ kk) ?_
  exact own_retA X405 hx hlk (t := (.object "java/lang/String")) hret rfl rfl rfl (hb hby dof_5) F407 ⟨rfl, F406, rfl⟩ (by decide) (by decide)
theorem doe_0 : decode jdk_32_method_1_code 0 = .ok (.getstatic 1, 3) := by decide +kernel
theorem doe_3 : decode jdk_32_method_1_code 3 = .ok (.astore_n 0, 1) := by decide +kernel
theorem doe_4 : decode jdk_32_method_1_code 4 = .ok (.aload_n 0, 1) := by decide +kernel
theorem doe_5 : decode jdk_32_method_1_code 5 = .ok (.areturn, 1) := by decide +kernel
set_option maxRecDepth 65536 in
set_option maxHeartbeats 40000000 in
theorem rm_oe (l : Launch) (Z : State) (a0 : Array Value) (hw : ∀ d ∈ tables_1, d.before a0 Z = true) (em : Addr) (h0 : Heap) (O0 : Old Z Z.heap.size h0) (SE : Sta Z Z.heap "java/util/Optional" "EMPTY" "Ljava/util/Optional;" (.ref em)) :
    own_Con l Z (⟨"java/util/Optional", "empty", "()Ljava/util/Optional;"⟩ : MethodName) jdk_32_method_1_code 1 (some (.object "java/util/Optional")) ({ frames := 0, cells := 0, slots := 0, locals := 0 } : Room) #[] h0 (fun v h L => v = some (.ref em) ∧ Fr Z.heap.size L ∧ h = h0) := by
  refine own_con (ls := #[.unset]) (plainFor_of_name pn_java_util_Optional) (fun m => by first | (simp [entryFrame, mkF, argsToLocals, Value.category]; done) | rfl) ?_
  intro p e s m below meth c s₁ hx hby hml0 hown0 hnm0 hret0 hlk hZ X0 e0
  have hml : c.maxLocals = 1 := hml0
  have hown : s.vm.findClass "java/util/Optional" = some m.cls := hown0
  have hnm : meth.name = "empty" := hnm0
  have hret : meth.sig.returnType = (some (.object "java/util/Optional")) := hret0
  have F408 := Fr.nil Z.heap.size
  have F409 := Keep.refl h0 []
  obtain ⟨T410, X410, e410, st410⟩ := getS (host := "") X0 hx hZ hown (w169 hw) Via.refl e0 (SE.ext O0.2) (g := (mkF m 0 #[.unset] [])) rfl (hb hby doe_0)
  refine own_step (T' := T410) (g' := (mkF m 3 #[.unset] [(.ref em)])) (fun _ kk => st410 _ kk) ?_
  refine own_step (T' := T410) (g' := (mkF m 4 #[.val (.ref em)] [])) (fun _ kk => XS.astoreN X410.here hx rfl (hb hby doe_3) rfl rfl (l' := #[.val (.ref em)]) rfl kk) ?_
  refine own_step (T' := T410) (g' := (mkF m 5 #[.val (.ref em)] [(.ref em)])) (fun _ kk => XS.aloadN X410.here hx rfl (hb hby doe_4) rfl rfl kk) ?_
  exact own_retA X410 hx hlk (t := (.object "java/util/Optional")) hret rfl rfl rfl (hb hby doe_5) e410 ⟨rfl, F408, rfl⟩ (by decide) (by decide)
theorem dul_0 : decode prog_1_method_8_code 0 = .ok (.lconst 0, 1) := by decide +kernel
theorem dul_1 : decode prog_1_method_8_code 1 = .ok (.lstore_n 1, 1) := by decide +kernel
theorem dul_2 : decode prog_1_method_8_code 2 = .ok (.iconst 0, 1) := by decide +kernel
theorem dul_3 : decode prog_1_method_8_code 3 = .ok (.istore_n 3, 1) := by decide +kernel
theorem dul_4 : decode prog_1_method_8_code 4 = .ok (.iload_n 3, 1) := by decide +kernel
theorem dul_5 : decode prog_1_method_8_code 5 = .ok (.aload_n 0, 1) := by decide +kernel
theorem dul_6 : decode prog_1_method_8_code 6 = .ok (.invokevirtual 62, 3) := by decide +kernel
theorem dul_9 : decode prog_1_method_8_code 9 = .ok (.if_icmp .ge 62, 3) := by decide +kernel
theorem dul_12 : decode prog_1_method_8_code 12 = .ok (.aload_n 0, 1) := by decide +kernel
theorem dul_13 : decode prog_1_method_8_code 13 = .ok (.iload_n 3, 1) := by decide +kernel
theorem dul_14 : decode prog_1_method_8_code 14 = .ok (.invokevirtual 65, 3) := by decide +kernel
theorem dul_17 : decode prog_1_method_8_code 17 = .ok (.istore 4, 2) := by decide +kernel
theorem dul_19 : decode prog_1_method_8_code 19 = .ok (.iload 4, 2) := by decide +kernel
theorem dul_21 : decode prog_1_method_8_code 21 = .ok (.sipush 128, 3) := by decide +kernel
theorem dul_24 : decode prog_1_method_8_code 24 = .ok (.if_icmp .ge 10, 3) := by decide +kernel
theorem dul_27 : decode prog_1_method_8_code 27 = .ok (.lload_n 1, 1) := by decide +kernel
theorem dul_28 : decode prog_1_method_8_code 28 = .ok (.lconst 1, 1) := by decide +kernel
theorem dul_29 : decode prog_1_method_8_code 29 = .ok (.ladd, 1) := by decide +kernel
theorem dul_30 : decode prog_1_method_8_code 30 = .ok (.lstore_n 1, 1) := by decide +kernel
theorem dul_31 : decode prog_1_method_8_code 31 = .ok (.goto 34, 3) := by decide +kernel
theorem dul_34 : decode prog_1_method_8_code 34 = .ok (.iload 4, 2) := by decide +kernel
theorem dul_36 : decode prog_1_method_8_code 36 = .ok (.sipush 2048, 3) := by decide +kernel
theorem dul_39 : decode prog_1_method_8_code 39 = .ok (.if_icmp .lt 11, 3) := by decide +kernel
theorem dul_42 : decode prog_1_method_8_code 42 = .ok (.iload 4, 2) := by decide +kernel
theorem dul_44 : decode prog_1_method_8_code 44 = .ok (.invokestatic 69, 3) := by decide +kernel
theorem dul_47 : decode prog_1_method_8_code 47 = .ok (.ifCond .eq 12, 3) := by decide +kernel
theorem dul_50 : decode prog_1_method_8_code 50 = .ok (.lload_n 1, 1) := by decide +kernel
theorem dul_51 : decode prog_1_method_8_code 51 = .ok (.ldc2_w 75, 3) := by decide +kernel
theorem dul_54 : decode prog_1_method_8_code 54 = .ok (.ladd, 1) := by decide +kernel
theorem dul_55 : decode prog_1_method_8_code 55 = .ok (.lstore_n 1, 1) := by decide +kernel
theorem dul_56 : decode prog_1_method_8_code 56 = .ok (.goto 9, 3) := by decide +kernel
theorem dul_59 : decode prog_1_method_8_code 59 = .ok (.lload_n 1, 1) := by decide +kernel
theorem dul_60 : decode prog_1_method_8_code 60 = .ok (.ldc2_w 77, 3) := by decide +kernel
theorem dul_63 : decode prog_1_method_8_code 63 = .ok (.ladd, 1) := by decide +kernel
theorem dul_64 : decode prog_1_method_8_code 64 = .ok (.lstore_n 1, 1) := by decide +kernel
theorem dul_65 : decode prog_1_method_8_code 65 = .ok (.iinc 3 1, 3) := by decide +kernel
theorem dul_68 : decode prog_1_method_8_code 68 = .ok (.goto (-64), 3) := by decide +kernel
theorem dul_71 : decode prog_1_method_8_code 71 = .ok (.lload_n 1, 1) := by decide +kernel
theorem dul_72 : decode prog_1_method_8_code 72 = .ok (.lreturn, 1) := by decide +kernel
set_option maxRecDepth 65536 in
set_option maxHeartbeats 40000000 in
theorem rm_ul (l : Launch) (Z : State) (a0 : Array Value) (hw : ∀ d ∈ tables_1, d.before a0 Z = true) (a1 : Addr) (cs : List Int32) (zc : Int32) (fm : Value) (h0 : Heap) (O0 : Old Z Z.heap.size h0) (hstr : own_Str Z h0 a1 cs) (hP : own_P cs) (hl : cs.length ≤ 4000) (SC : Sta Z Z.heap "java/lang/String" "COMPACT_STRINGS" "Z" (.int zc)) (hzc : ¬ zc = (0 : Int32)) (SI : Sta Z Z.heap "jdk/internal/util/Preconditions" "SIOOBE_FORMATTER" "Ljava/util/function/BiFunction;" fm) (rfm : fm.isRef = true) :
    own_Con l Z (⟨"com/example/hradcany/hradcany/authzen/AnswerText", "utf8Length", "(Ljava/lang/String;)J"⟩ : MethodName) prog_1_method_8_code 5 (some .long) ({ frames := 5, cells := 0, slots := 0, locals := 90 } : Room) #[(.ref a1)] h0 (fun v h L => v = some (.long (Int64.ofNat cs.length)) ∧ Fr Z.heap.size L ∧ h = h0) := by
  refine own_con (ls := #[.val (.ref a1), .unset, .unset, .unset, .unset]) (plainFor_of_name pn_com_example_hradcany_hradcany_authzen_AnswerText) (fun m => by first | (simp [entryFrame, mkF, argsToLocals, Value.category]; done) | rfl) ?_
  intro p e s m below meth c s₁ hx hby hml0 hown0 hnm0 hret0 hlk hZ X0 e0
  have hml : c.maxLocals = 5 := hml0
  have hown : s.vm.findClass "com/example/hradcany/hradcany/authzen/AnswerText" = some m.cls := hown0
  have hnm : meth.name = "utf8Length" := hnm0
  have hret : meth.sig.returnType = (some .long) := hret0
  have F411 := Fr.nil Z.heap.size
  have F412 := Keep.refl h0 []
  refine own_step (T' := s₁) (g' := (mkF m 1 #[.val (.ref a1), .unset, .unset, .unset, .unset] [(.long (0 : Int64))])) (fun _ kk => XS.lconst X0.here hx rfl (hb hby dul_0) kk) ?_
  refine own_step (T' := s₁) (g' := (mkF m 2 #[.val (.ref a1), .val (.long (0 : Int64)), .second, .unset, .unset] [])) (fun _ kk => XS.lstoreN X0.here hx rfl (hb hby dul_1) rfl (l' := #[.val (.ref a1), .val (.long (0 : Int64)), .second, .unset, .unset]) rfl kk) ?_
  refine own_step (T' := s₁) (g' := (mkF m 3 #[.val (.ref a1), .val (.long (0 : Int64)), .second, .unset, .unset] [(.int (0 : Int32))])) (fun _ kk => XS.iconst X0.here hx rfl (hb hby dul_2) kk) ?_
  refine own_step (T' := s₁) (g' := (mkF m 4 #[.val (.ref a1), .val (.long (0 : Int64)), .second, .val (.int (0 : Int32)), .unset] [])) (fun _ kk => XS.istoreN X0.here hx rfl (hb hby dul_3) rfl (l' := #[.val (.ref a1), .val (.long (0 : Int64)), .second, .val (.int (0 : Int32)), .unset]) rfl kk) ?_
  have lp : ∀ (k i : Nat) (z8 : Slot) (T : State) (locs : List Loc), i + k = cs.length → (z8 = .unset ∨ ∃ w, z8 = .val w ∧ w.category = 1) → Stand p l e ({ frames := 5, cells := 0, slots := 0, locals := 90 } : Room) s m #[.ref a1] below meth c T locs 0 0 → T.heap = h0 → Fr Z.heap.size locs → own_Fin p e below (own_PostN s ({ frames := 5, cells := 0, slots := 0, locals := 90 } : Room) (fun v h L => v = some (.long (Int64.ofNat cs.length)) ∧ Fr Z.heap.size L ∧ h = h0)) T (mkF m 4 #[.val (.ref a1), .val (.long (Int64.ofNat i)), .second, .val (.int (Int32.ofNat i)), z8] []) := by
    intro k
    induction k with
    | zero =>
      intro i z8 T locs hik hz8 X1 q1 N1
      refine own_step (T' := T) (g' := (mkF m 5 #[.val (.ref a1), .val (.long (Int64.ofNat i)), .second, .val (.int (Int32.ofNat i)), z8] [(.int (Int32.ofNat i))])) (fun _ kk => XS.iloadN X1.here hx rfl (hb hby dul_4) rfl kk) ?_
      refine own_step (T' := T) (g' := (mkF m 6 #[.val (.ref a1), .val (.long (Int64.ofNat i)), .second, .val (.int (Int32.ofNat i)), z8] [(.ref a1), (.int (Int32.ofNat i))])) (fun _ kk => XS.aloadN X1.here hx rfl (hb hby dul_5) rfl rfl kk) ?_
      obtain ⟨T414, L414, _, h414, X414, e414, ⟨rfl, Nq413, eh413⟩, st414⟩ := own_callV X1 hx hZ hown (w173 hw) (w155 hw) (w157 hw) (w156 hw) (w158 hw) (w36 hw) (by decide) (own_Str.exa hstr) (g := (mkF m 6 #[.val (.ref a1), .val (.long (Int64.ofNat i)), .second, .val (.int (Int32.ofNat i)), z8] [(.ref a1), (.int (Int32.ofNat i))])) rfl (by rw [hml]; rfl) (argsL := []) (rest := [(.int (Int32.ofNat i))]) (rm_ln l Z a0 hw a1 cs zc _ O0 hstr SC hzc) q1 pd___I rfl rfl (W := 1) (by show 2 * 0 + _ ≤ _; first | exact Nat.le_of_eq rfl | simp [own_cref own_of_ref]) (hb hby dul_6) (by decide) (by decide) (by decide) (by decide)
      have F415 := Fr.app N1 Nq413
      have F416 := e414.trans eh413
      refine own_step (T' := T414) (g' := (mkF m 9 #[.val (.ref a1), .val (.long (Int64.ofNat i)), .second, .val (.int (Int32.ofNat i)), z8] [(.int (Int32.ofNat cs.length)), (.int (Int32.ofNat i))])) (fun _ kk => st414 _ kk) ?_
      refine own_step (T' := T414) (g' := (mkF m 71 #[.val (.ref a1), .val (.long (Int64.ofNat i)), .second, .val (.int (Int32.ofNat i)), z8] [])) (fun _ kk => XS.icmpYes X414.here hx rfl (pc0 := 9) (pc' := 71) rfl (hb hby dul_9) rfl (flt (own_nltn (by omega) (by omega))).2.1 (by decide) (by decide) kk) ?_
      refine own_step (T' := T414) (g' := (mkF m 72 #[.val (.ref a1), .val (.long (Int64.ofNat i)), .second, .val (.int (Int32.ofNat i)), z8] [(.long (Int64.ofNat i))])) (fun _ kk => XS.lloadN X414.here hx rfl (hb hby dul_71) rfl kk) ?_
      obtain rfl : i = cs.length := by omega
      exact own_retL X414 hx hlk hret (hb hby dul_72) F416 ⟨rfl, F415, rfl⟩ (by decide) (by decide)
    | succ k ih =>
      intro i z8 T locs hik hz8 X1 q1 N1
      refine own_step (T' := T) (g' := (mkF m 5 #[.val (.ref a1), .val (.long (Int64.ofNat i)), .second, .val (.int (Int32.ofNat i)), z8] [(.int (Int32.ofNat i))])) (fun _ kk => XS.iloadN X1.here hx rfl (hb hby dul_4) rfl kk) ?_
      refine own_step (T' := T) (g' := (mkF m 6 #[.val (.ref a1), .val (.long (Int64.ofNat i)), .second, .val (.int (Int32.ofNat i)), z8] [(.ref a1), (.int (Int32.ofNat i))])) (fun _ kk => XS.aloadN X1.here hx rfl (hb hby dul_5) rfl rfl kk) ?_
      obtain ⟨T418, L418, _, h418, X418, e418, ⟨rfl, Nq417, eh417⟩, st418⟩ := own_callV X1 hx hZ hown (w173 hw) (w155 hw) (w157 hw) (w156 hw) (w158 hw) (w36 hw) (by decide) (own_Str.exa hstr) (g := (mkF m 6 #[.val (.ref a1), .val (.long (Int64.ofNat i)), .second, .val (.int (Int32.ofNat i)), z8] [(.ref a1), (.int (Int32.ofNat i))])) rfl (by rw [hml]; rfl) (argsL := []) (rest := [(.int (Int32.ofNat i))]) (rm_ln l Z a0 hw a1 cs zc _ O0 hstr SC hzc) q1 pd___I rfl rfl (W := 1) (by show 2 * 0 + _ ≤ _; first | exact Nat.le_of_eq rfl | simp [own_cref own_of_ref]) (hb hby dul_6) (by decide) (by decide) (by decide) (by decide)
      have F419 := Fr.app N1 Nq417
      have F420 := e418.trans eh417
      refine own_step (T' := T418) (g' := (mkF m 9 #[.val (.ref a1), .val (.long (Int64.ofNat i)), .second, .val (.int (Int32.ofNat i)), z8] [(.int (Int32.ofNat cs.length)), (.int (Int32.ofNat i))])) (fun _ kk => st418 _ kk) ?_
      refine own_step (T' := T418) (g' := (mkF m 12 #[.val (.ref a1), .val (.long (Int64.ofNat i)), .second, .val (.int (Int32.ofNat i)), z8] [])) (fun _ kk => XS.icmpNo X418.here hx rfl (hb hby dul_9) rfl (tlt (own_ltn (by omega) (by omega))).2.1 kk) ?_
      refine own_step (T' := T418) (g' := (mkF m 13 #[.val (.ref a1), .val (.long (Int64.ofNat i)), .second, .val (.int (Int32.ofNat i)), z8] [(.ref a1)])) (fun _ kk => XS.aloadN X418.here hx rfl (hb hby dul_12) rfl rfl kk) ?_
      refine own_step (T' := T418) (g' := (mkF m 14 #[.val (.ref a1), .val (.long (Int64.ofNat i)), .second, .val (.int (Int32.ofNat i)), z8] [(.int (Int32.ofNat i)), (.ref a1)])) (fun _ kk => XS.iloadN X418.here hx rfl (hb hby dul_13) rfl kk) ?_
      obtain ⟨T422, L422, _, h422, X422, e422, ⟨rfl, Nq421, eh421⟩, st422⟩ := own_callV X418 hx hZ hown (w227 hw) (w208 hw) (w210 hw) (w209 hw) (w211 hw) (w36 hw) (by decide) (own_Str.exa hstr) (g := (mkF m 14 #[.val (.ref a1), .val (.long (Int64.ofNat i)), .second, .val (.int (Int32.ofNat i)), z8] [(.int (Int32.ofNat i)), (.ref a1)])) rfl (by rw [hml]; rfl) (argsL := [(.int (Int32.ofNat i))]) (rest := []) (rm_ch l Z a0 hw a1 cs zc i fm _ O0 hstr hP.B hl (by omega) SC hzc SI rfm) F420 pd__I_C rfl rfl (W := 0) (by show 2 * 0 + _ ≤ _; first | exact Nat.le_of_eq rfl | simp [own_cref own_of_ref]) (hb hby dul_14) (by decide) (by decide) (by decide) (by decide)
      have F423 := Fr.app F419 Nq421
      have F424 := e422.trans eh421
      refine own_step (T' := T422) (g' := (mkF m 17 #[.val (.ref a1), .val (.long (Int64.ofNat i)), .second, .val (.int (Int32.ofNat i)), z8] [(.int (cs.getD i 0))])) (fun _ kk => st422 _ kk) ?_
      have hr := hP.at (show i < cs.length by omega)
      refine own_step (T' := T422) (g' := (mkF m 19 #[.val (.ref a1), .val (.long (Int64.ofNat i)), .second, .val (.int (Int32.ofNat i)), .val (.int (cs.getD i 0))] [])) (fun _ kk => XS.istore X422.here hx rfl (hb hby dul_17) rfl (l' := #[.val (.ref a1), .val (.long (Int64.ofNat i)), .second, .val (.int (Int32.ofNat i)), .val (.int (cs.getD i 0))]) (XS.store1 (o := z8) rfl hz8 rfl) kk) ?_
      refine own_step (T' := T422) (g' := (mkF m 21 #[.val (.ref a1), .val (.long (Int64.ofNat i)), .second, .val (.int (Int32.ofNat i)), .val (.int (cs.getD i 0))] [(.int (cs.getD i 0))])) (fun _ kk => XS.iload X422.here hx rfl (hb hby dul_19) rfl kk) ?_
      refine own_step (T' := T422) (g' := (mkF m 24 #[.val (.ref a1), .val (.long (Int64.ofNat i)), .second, .val (.int (Int32.ofNat i)), .val (.int (cs.getD i 0))] [(.int (128 : Int32)), (.int (cs.getD i 0))])) (fun _ kk => XS.sipush X422.here hx rfl (hb hby dul_21) kk) ?_
      refine own_step (T' := T422) (g' := (mkF m 27 #[.val (.ref a1), .val (.long (Int64.ofNat i)), .second, .val (.int (Int32.ofNat i)), .val (.int (cs.getD i 0))] [])) (fun _ kk => XS.icmpNo X422.here hx rfl (hb hby dul_24) rfl (tlt (own_lt (by show _ < (128 : Int); omega))).2.1 kk) ?_
      refine own_step (T' := T422) (g' := (mkF m 28 #[.val (.ref a1), .val (.long (Int64.ofNat i)), .second, .val (.int (Int32.ofNat i)), .val (.int (cs.getD i 0))] [(.long (Int64.ofNat i))])) (fun _ kk => XS.lloadN X422.here hx rfl (hb hby dul_27) rfl kk) ?_
      refine own_step (T' := T422) (g' := (mkF m 29 #[.val (.ref a1), .val (.long (Int64.ofNat i)), .second, .val (.int (Int32.ofNat i)), .val (.int (cs.getD i 0))] [(.long (1 : Int64)), (.long (Int64.ofNat i))])) (fun _ kk => XS.lconst X422.here hx rfl (hb hby dul_28) kk) ?_
      refine own_step (T' := T422) (g' := (mkF m 30 #[.val (.ref a1), .val (.long (Int64.ofNat i)), .second, .val (.int (Int32.ofNat i)), .val (.int (cs.getD i 0))] [(.long ((Int64.ofNat i) + (1 : Int64)))])) (fun _ kk => XS.ladd X422.here hx rfl (hb hby dul_29) rfl kk) ?_
      refine own_step (T' := T422) (g' := (mkF m 31 #[.val (.ref a1), .val (.long ((Int64.ofNat i) + (1 : Int64))), .second, .val (.int (Int32.ofNat i)), .val (.int (cs.getD i 0))] [])) (fun _ kk => XS.lstoreN X422.here hx rfl (hb hby dul_30) rfl (l' := #[.val (.ref a1), .val (.long ((Int64.ofNat i) + (1 : Int64))), .second, .val (.int (Int32.ofNat i)), .val (.int (cs.getD i 0))]) rfl kk) ?_
      refine own_step (T' := T422) (g' := (mkF m 65 #[.val (.ref a1), .val (.long ((Int64.ofNat i) + (1 : Int64))), .second, .val (.int (Int32.ofNat i)), .val (.int (cs.getD i 0))] [])) (fun _ kk => XS.goto X422.here hx rfl (pc0 := 31) (pc' := 65) rfl (hb hby dul_31) (by decide) (by decide) kk) ?_
      refine own_step (T' := T422) (g' := (mkF m 68 #[.val (.ref a1), .val (.long ((Int64.ofNat i) + (1 : Int64))), .second, .val (.int ((Int32.ofNat i) + (1 : Int32))), .val (.int (cs.getD i 0))] [])) (fun _ kk => XS.iinc X422.here hx rfl (hb hby dul_65) rfl (l' := #[.val (.ref a1), .val (.long ((Int64.ofNat i) + (1 : Int64))), .second, .val (.int ((Int32.ofNat i) + (1 : Int32))), .val (.int (cs.getD i 0))]) rfl kk) ?_
      refine own_step (T' := T422) (g' := (mkF m 4 #[.val (.ref a1), .val (.long ((Int64.ofNat i) + (1 : Int64))), .second, .val (.int ((Int32.ofNat i) + (1 : Int32))), .val (.int (cs.getD i 0))] [])) (fun _ kk => XS.goto X422.here hx rfl (pc0 := 68) (pc' := 4) rfl (hb hby dul_68) (by decide) (by decide) kk) ?_
      rw [own_one, own_oneL]
      exact ih (i + 1) _ _ _ (by omega) (Or.inr ⟨_, rfl, rfl⟩) X422 F424 F423
  exact lp cs.length 0 .unset _ _ (by omega) (Or.inl rfl) X0 e0 F411
theorem drn_0 : decode jdk_31_method_10_code 0 = .ok (.aload_n 0, 1) := by decide +kernel
theorem drn_1 : decode jdk_31_method_10_code 1 = .ok (.ifnonnull 11, 3) := by decide +kernel
theorem drn_4 : decode jdk_31_method_10_code 4 = .ok (.new 84, 3) := by decide +kernel
theorem drn_7 : decode jdk_31_method_10_code 7 = .ok (.dup, 1) := by decide +kernel
theorem drn_8 : decode jdk_31_method_10_code 8 = .ok (.invokespecial 86, 3) := by decide +kernel
theorem drn_11 : decode jdk_31_method_10_code 11 = .ok (.athrow, 1) := by decide +kernel
theorem drn_12 : decode jdk_31_method_10_code 12 = .ok (.aload_n 0, 1) := by decide +kernel
theorem drn_13 : decode jdk_31_method_10_code 13 = .ok (.areturn, 1) := by decide +kernel
set_option maxRecDepth 65536 in
set_option maxHeartbeats 40000000 in
theorem rm_rn (l : Launch) (Z : State) (a0 : Array Value) (hw : ∀ d ∈ tables_1, d.before a0 Z = true) (a1 : Addr) (h0 : Heap) (O0 : Old Z Z.heap.size h0)  :
    own_Con l Z (⟨"java/util/Objects", "requireNonNull", "(Ljava/lang/Object;)Ljava/lang/Object;"⟩ : MethodName) jdk_31_method_10_code 1 (some (.object "java/lang/Object")) ({ frames := 0, cells := 0, slots := 0, locals := 0 } : Room) #[(.ref a1)] h0 (fun v h L => v = some (.ref a1) ∧ Fr Z.heap.size L ∧ h = h0) := by
  refine own_con (ls := #[.val (.ref a1)]) (plainFor_of_name pn_java_util_Objects) (fun m => by first | (simp [entryFrame, mkF, argsToLocals, Value.category]; done) | rfl) ?_
  intro p e s m below meth c s₁ hx hby hml0 hown0 hnm0 hret0 hlk hZ X0 e0
  have hml : c.maxLocals = 1 := hml0
  have hown : s.vm.findClass "java/util/Objects" = some m.cls := hown0
  have hnm : meth.name = "requireNonNull" := hnm0
  have hret : meth.sig.returnType = (some (.object "java/lang/Object")) := hret0
  have F425 := Fr.nil Z.heap.size
  have F426 := Keep.refl h0 []
  refine own_step (T' := s₁) (g' := (mkF m 1 #[.val (.ref a1)] [(.ref a1)])) (fun _ kk => XS.aloadN X0.here hx rfl (hb hby drn_0) rfl rfl kk) ?_
  refine own_step (T' := s₁) (g' := (mkF m 12 #[.val (.ref a1)] [])) (fun _ kk => XS.ifnonnullYes X0.here hx rfl (pc0 := 1) (pc' := 12) rfl (hb hby drn_1) rfl (by decide) (by decide) kk) ?_
  refine own_step (T' := s₁) (g' := (mkF m 13 #[.val (.ref a1)] [(.ref a1)])) (fun _ kk => XS.aloadN X0.here hx rfl (hb hby drn_12) rfl rfl kk) ?_
  exact own_retA X0 hx hlk (t := (.object "java/lang/Object")) hret rfl rfl rfl (hb hby drn_13) e0 ⟨rfl, F425, rfl⟩ (by decide) (by decide)
theorem doi_0 : decode jdk_32_method_2_code 0 = .ok (.aload_n 0, 1) := by decide +kernel
theorem doi_1 : decode jdk_32_method_2_code 1 = .ok (.invokespecial 7, 3) := by decide +kernel
theorem doi_4 : decode jdk_32_method_2_code 4 = .ok (.aload_n 0, 1) := by decide +kernel
theorem doi_5 : decode jdk_32_method_2_code 5 = .ok (.aload_n 1, 1) := by decide +kernel
theorem doi_6 : decode jdk_32_method_2_code 6 = .ok (.putfield 13, 3) := by decide +kernel
theorem doi_9 : decode jdk_32_method_2_code 9 = .ok (.return_, 1) := by decide +kernel
set_option maxRecDepth 65536 in
set_option maxHeartbeats 40000000 in
theorem rm_oi (l : Launch) (Z : State) (a0 : Array Value) (hw : ∀ d ∈ tables_1, d.before a0 Z = true) (a1 x1 : Addr) (h0 : Heap) (O0 : Old Z Z.heap.size h0) (O1 : own_Obj Z h0 a1 "java/util/Optional") (g1 : Z.heap.size ≤ a1) :
    own_Con l Z (⟨"java/util/Optional", "<init>", "(Ljava/lang/Object;)V"⟩ : MethodName) jdk_32_method_2_code 2 none ({ frames := 1, cells := 0, slots := 0, locals := 12 } : Room) #[(.ref a1), (.ref x1)] h0 (fun v h L => v = none ∧ Fr Z.heap.size L ∧ Keep h0 h [a1] ∧ Fld Z h a1 "java/util/Optional" "value" "Ljava/lang/Object;" (.ref x1)) := by
  refine own_con (ls := #[.val (.ref a1), .val (.ref x1)]) (plainFor_of_name pn_java_util_Optional) (fun m => by first | (simp [entryFrame, mkF, argsToLocals, Value.category]; done) | rfl) ?_
  intro p e s m below meth c s₁ hx hby hml0 hown0 hnm0 hret0 hlk hZ X0 e0
  have hml : c.maxLocals = 2 := hml0
  have hown : s.vm.findClass "java/util/Optional" = some m.cls := hown0
  have hnm : meth.name = "<init>" := hnm0
  have hret : meth.sig.returnType = none := hret0
  have F427 := Fr.nil Z.heap.size
  have F428 := Keep.refl h0 []
  have F429 := Keep.refl h0 [a1]
  refine own_step (T' := s₁) (g' := (mkF m 1 #[.val (.ref a1), .val (.ref x1)] [(.ref a1)])) (fun _ kk => XS.aloadN X0.here hx rfl (hb hby doi_0) rfl rfl kk) ?_
  obtain ⟨T430, X430, e430, st430⟩ := initO X0 hx hZ hown (w187 hw) (w18 hw) (w19 hw) e0 (g := (mkF m 1 #[.val (.ref a1), .val (.ref x1)] [(.ref a1)])) rfl (by rw [hml]; rfl) rfl (hb hby doi_1) (by decide) (W := 0) (by show 2 * 0 + _ ≤ _; first | exact Nat.le_of_eq rfl | simp [own_cref own_of_ref]) (by decide)
  refine own_step (T' := T430) (g' := (mkF m 4 #[.val (.ref a1), .val (.ref x1)] [])) (fun _ kk => st430 _ kk) ?_
  refine own_step (T' := T430) (g' := (mkF m 5 #[.val (.ref a1), .val (.ref x1)] [(.ref a1)])) (fun _ kk => XS.aloadN X430.here hx rfl (hb hby doi_4) rfl rfl kk) ?_
  refine own_step (T' := T430) (g' := (mkF m 6 #[.val (.ref a1), .val (.ref x1)] [(.ref x1), (.ref a1)])) (fun _ kk => XS.aloadN X430.here hx rfl (hb hby doi_5) rfl rfl kk) ?_
  obtain ⟨u431, Fu431⟩ := O1.fld (w178 hw) (Or.inr (w189 hw) : Laid Z a0 "java/util/Optional" "java/util/Optional" "value" "Ljava/lang/Object;")
  obtain ⟨T431, h431, X431, e431, W431, st431⟩ := putF X430 hx hZ hown (host := "") (Or.inl (w188 hw)) Via.refl e430 Fu431 O1.1 (Or.inr ⟨(w189 hw), rfl, hnm⟩) (w178 hw) (ty := (.object "java/lang/Object")) (by decide) rfl rfl (g := (mkF m 6 #[.val (.ref a1), .val (.ref x1)] [(.ref x1), (.ref a1)])) rfl rfl (hb hby doi_6)
  have F432 := Fr.snoc X431 F427 g1
  have F433 := O1.wr W431
  have F434 := O0.wr W431 g1
  have F435 := F429.wr W431 (Or.inl (List.mem_of_getElem? (i := 0) rfl))
  have F436 : Fld Z h431 a1 "java/util/Optional" "value" "Ljava/lang/Object;" (.ref x1) := Fu431.same W431
  refine own_step (T' := T431) (g' := (mkF m 9 #[.val (.ref a1), .val (.ref x1)] [])) (fun _ kk => st431 _ kk) ?_
  exact own_retV X431 hx hlk hret (hb hby doi_9) e431 ⟨rfl, F432, F435, F436⟩ (by decide) (by decide)
theorem doo_0 : decode jdk_32_method_3_code 0 = .ok (.new 2, 3) := by decide +kernel
theorem doo_3 : decode jdk_32_method_3_code 3 = .ok (.dup, 1) := by decide +kernel
theorem doo_4 : decode jdk_32_method_3_code 4 = .ok (.aload_n 0, 1) := by decide +kernel
theorem doo_5 : decode jdk_32_method_3_code 5 = .ok (.invokestatic 17, 3) := by decide +kernel
theorem doo_8 : decode jdk_32_method_3_code 8 = .ok (.invokespecial 23, 3) := by decide +kernel
theorem doo_11 : decode jdk_32_method_3_code 11 = .ok (.areturn, 1) := by decide +kernel
set_option maxRecDepth 65536 in
set_option maxHeartbeats 40000000 in
theorem rm_oo (l : Launch) (Z : State) (a0 : Array Value) (hw : ∀ d ∈ tables_1, d.before a0 Z = true) (x1 : Addr) (h0 : Heap) (O0 : Old Z Z.heap.size h0)  :
    own_Con l Z (⟨"java/util/Optional", "of", "(Ljava/lang/Object;)Ljava/util/Optional;"⟩ : MethodName) jdk_32_method_3_code 1 (some (.object "java/util/Optional")) ({ frames := 2, cells := 1, slots := 1, locals := 26 } : Room) #[(.ref x1)] h0 (fun v h L => ∃ a, v = some (.ref a) ∧ Fr Z.heap.size L ∧ Keep h0 h [] ∧ Exa Z h a "java/util/Optional" ∧ Fld Z h a "java/util/Optional" "value" "Ljava/lang/Object;" (.ref x1)) := by
  refine own_con (ls := #[.val (.ref x1)]) (plainFor_of_name pn_java_util_Optional) (fun m => by first | (simp [entryFrame, mkF, argsToLocals, Value.category]; done) | rfl) ?_
  intro p e s m below meth c s₁ hx hby hml0 hown0 hnm0 hret0 hlk hZ X0 e0
  have hml : c.maxLocals = 1 := hml0
  have hown : s.vm.findClass "java/util/Optional" = some m.cls := hown0
  have hnm : meth.name = "of" := hnm0
  have hret : meth.sig.returnType = (some (.object "java/util/Optional")) := hret0
  have F437 := Fr.nil Z.heap.size
  have F438 := Keep.refl h0 []
  obtain ⟨T439, h439, X439, e439, E439, A439, D439, U439, st439⟩ := newO X0 hx hZ hown (w177 hw) (w178 hw) (w167 hw) e0 (g := (mkF m 0 #[.val (.ref x1)] [])) rfl (hb hby doo_0) (by decide) (by decide)
  obtain ⟨na, g439⟩ : ∃ z, z = h0.size := ⟨_, rfl⟩
  rw [← g439] at A439 D439 U439 st439
  have ge440 : Z.heap.size ≤ na := by rw [g439]; exact O0.2.1
  have ng441 : h0.size ≤ na := by rw [g439]; exact F438.1
  have F442 := O0.ext E439
  have F443 := F438.ext E439
  have F444 : own_Obj Z h439 na "java/util/Optional" := own_Obj.new A439 U439
  refine own_step (T' := T439) (g' := (mkF m 3 #[.val (.ref x1)] [(.ref na)])) (fun _ kk => st439 _ kk) ?_
  refine own_step (T' := T439) (g' := (mkF m 4 #[.val (.ref x1)] [(.ref na), (.ref na)])) (fun _ kk => XS.dup X439.here hx rfl (hb hby doo_3) rfl rfl kk) ?_
  refine own_step (T' := T439) (g' := (mkF m 5 #[.val (.ref x1)] [(.ref x1), (.ref na), (.ref na)])) (fun _ kk => XS.aloadN X439.here hx rfl (hb hby doo_4) rfl rfl kk) ?_
  obtain ⟨T446, L446, _, h446, X446, e446, ⟨rfl, Nq445, eh445⟩, st446⟩ := own_callS X439 hx hZ hown (w179 hw) (w180 hw) (w182 hw) (w181 hw) (by decide) (g := (mkF m 5 #[.val (.ref x1)] [(.ref x1), (.ref na), (.ref na)])) rfl (by rw [hml]; rfl) (argsL := [(.ref x1)]) (rest := [(.ref na), (.ref na)]) (rm_rn l Z a0 hw x1 _ F442) e439 pd__Ljava_lang_Object__Ljava_lang_Object_ rfl rfl (W := 2) (by show 2 * 0 + _ ≤ _; first | exact Nat.le_of_eq rfl | simp [own_cref own_of_ref]) (hb hby doo_5) (by decide) (by decide) (by decide) (by decide)
  have F447 := Fr.app F437 Nq445
  have F448 := e446.trans eh445
  refine own_step (T' := T446) (g' := (mkF m 8 #[.val (.ref x1)] [(.ref x1), (.ref na), (.ref na)])) (fun _ kk => st446 _ kk) ?_
  obtain ⟨T449, L449, _, h449, X449, e449, ⟨rfl, Nc, Kc, Fc⟩, st449⟩ := own_callC X446 hx hZ hown rfl (w183 hw) (w184 hw) (w186 hw) (w167 hw) (by decide) (a := na) (g := (mkF m 8 #[.val (.ref x1)] [(.ref x1), (.ref na), (.ref na)])) rfl (by rw [hml]; rfl) (argsL := [(.ref x1)]) (rest := [(.ref na)]) (rm_oi l Z a0 hw na x1 _ F442 F444 ge440) F448 pd__Ljava_lang_Object__V rfl rfl (W := 1) (by show 2 * 0 + _ ≤ _; first | exact Nat.le_of_eq rfl | simp [own_cref own_of_ref]) (hb hby doo_8) (by decide) (by decide) (by decide) (by decide)
  have F450 := Fr.app F447 Nc
  have F451 := F444.keep Kc
  have F452 := F442.keep Kc (allS ge440 all0)
  have F453 := F443.trans Kc (allS (Or.inr ng441) all0)
  refine own_step (T' := T449) (g' := (mkF m 11 #[.val (.ref x1)] [(.ref na)])) (fun _ kk => st449 _ kk) ?_
  exact own_retA X449 hx hlk (t := (.object "java/util/Optional")) hret rfl rfl rfl (hb hby doo_11) e449 ⟨na, rfl, F450, F453, F451.1, Fc⟩ (by decide) (by decide)
theorem dor_0 : decode jdk_32_method_15_code 0 = .ok (.aload_n 0, 1) := by decide +kernel
theorem dor_1 : decode jdk_32_method_15_code 1 = .ok (.getfield 13, 3) := by decide +kernel
theorem dor_4 : decode jdk_32_method_15_code 4 = .ok (.ifnull 10, 3) := by decide +kernel
theorem dor_7 : decode jdk_32_method_15_code 7 = .ok (.aload_n 0, 1) := by decide +kernel
theorem dor_8 : decode jdk_32_method_15_code 8 = .ok (.getfield 13, 3) := by decide +kernel
theorem dor_11 : decode jdk_32_method_15_code 11 = .ok (.goto 4, 3) := by decide +kernel
theorem dor_14 : decode jdk_32_method_15_code 14 = .ok (.aload_n 1, 1) := by decide +kernel
theorem dor_15 : decode jdk_32_method_15_code 15 = .ok (.areturn, 1) := by decide +kernel
set_option maxRecDepth 65536 in
set_option maxHeartbeats 40000000 in
theorem rm_or (l : Launch) (Z : State) (a0 : Array Value) (hw : ∀ d ∈ tables_1, d.before a0 Z = true) (a1 x1 : Addr) (h0 : Heap) (O0 : Old Z Z.heap.size h0) (F1 : Fld Z h0 a1 "java/util/Optional" "value" "Ljava/lang/Object;" (.ref x1)) :
    own_Con l Z (⟨"java/util/Optional", "orElse", "(Ljava/lang/Object;)Ljava/lang/Object;"⟩ : MethodName) jdk_32_method_15_code 2 (some (.object "java/lang/Object")) ({ frames := 0, cells := 0, slots := 0, locals := 0 } : Room) #[(.ref a1), .null] h0 (fun v h L => v = some (.ref x1) ∧ Fr Z.heap.size L ∧ h = h0) := by
  refine own_con (ls := #[.val (.ref a1), .val .null]) (plainFor_of_name pn_java_util_Optional) (fun m => by first | (simp [entryFrame, mkF, argsToLocals, Value.category]; done) | rfl) ?_
  intro p e s m below meth c s₁ hx hby hml0 hown0 hnm0 hret0 hlk hZ X0 e0
  have hml : c.maxLocals = 2 := hml0
  have hown : s.vm.findClass "java/util/Optional" = some m.cls := hown0
  have hnm : meth.name = "orElse" := hnm0
  have hret : meth.sig.returnType = (some (.object "java/lang/Object")) := hret0
  have F454 := Fr.nil Z.heap.size
  have F455 := Keep.refl h0 []
  refine own_step (T' := s₁) (g' := (mkF m 1 #[.val (.ref a1), .val .null] [(.ref a1)])) (fun _ kk => XS.aloadN X0.here hx rfl (hb hby dor_0) rfl rfl kk) ?_
  obtain ⟨T456, X456, e456, st456⟩ := getF X0 hx hZ hown (host := "") (Or.inl (w188 hw)) Via.refl e0 F1 (g := (mkF m 1 #[.val (.ref a1), .val .null] [(.ref a1)])) rfl rfl (hb hby dor_1)
  refine own_step (T' := T456) (g' := (mkF m 4 #[.val (.ref a1), .val .null] [(.ref x1)])) (fun _ kk => st456 _ kk) ?_
  refine own_step (T' := T456) (g' := (mkF m 7 #[.val (.ref a1), .val .null] [])) (fun _ kk => XS.ifnullNo X456.here hx rfl (hb hby dor_4) rfl kk) ?_
  refine own_step (T' := T456) (g' := (mkF m 8 #[.val (.ref a1), .val .null] [(.ref a1)])) (fun _ kk => XS.aloadN X456.here hx rfl (hb hby dor_7) rfl rfl kk) ?_
  obtain ⟨T457, X457, e457, st457⟩ := getF X456 hx hZ hown (host := "") (Or.inl (w188 hw)) Via.refl e456 F1 (g := (mkF m 8 #[.val (.ref a1), .val .null] [(.ref a1)])) rfl rfl (hb hby dor_8)
  refine own_step (T' := T457) (g' := (mkF m 11 #[.val (.ref a1), .val .null] [(.ref x1)])) (fun _ kk => st457 _ kk) ?_
  refine own_step (T' := T457) (g' := (mkF m 15 #[.val (.ref a1), .val .null] [(.ref x1)])) (fun _ kk => XS.goto X457.here hx rfl (pc0 := 11) (pc' := 15) rfl (hb hby dor_11) (by decide) (by decide) kk) ?_
  exact own_retA X457 hx hlk (t := (.object "java/lang/Object")) hret rfl rfl rfl (hb hby dor_15) e457 ⟨rfl, F454, rfl⟩ (by decide) (by decide)
theorem dse_0 : decode prog_1_method_6_code 0 = .ok (.aload_n 0, 1) := by decide +kernel
theorem dse_1 : decode prog_1_method_6_code 1 = .ok (.getfield 10, 3) := by decide +kernel
theorem dse_4 : decode prog_1_method_6_code 4 = .ok (.invokevirtual 31, 3) := by decide +kernel
theorem dse_7 : decode prog_1_method_6_code 7 = .ok (.invokestatic 35, 3) := by decide +kernel
theorem dse_10 : decode prog_1_method_6_code 10 = .ok (.astore_n 1, 1) := by decide +kernel
theorem dse_11 : decode prog_1_method_6_code 11 = .ok (.invokestatic 41, 3) := by decide +kernel
theorem dse_14 : decode prog_1_method_6_code 14 = .ok (.astore_n 2, 1) := by decide +kernel
theorem dse_15 : decode prog_1_method_6_code 15 = .ok (.aload_n 1, 1) := by decide +kernel
theorem dse_16 : decode prog_1_method_6_code 16 = .ok (.invokestatic 47, 3) := by decide +kernel
theorem dse_19 : decode prog_1_method_6_code 19 = .ok (.aload_n 0, 1) := by decide +kernel
theorem dse_20 : decode prog_1_method_6_code 20 = .ok (.getfield 16, 3) := by decide +kernel
theorem dse_23 : decode prog_1_method_6_code 23 = .ok (.i2l, 1) := by decide +kernel
theorem dse_24 : decode prog_1_method_6_code 24 = .ok (.lcmp, 1) := by decide +kernel
theorem dse_25 : decode prog_1_method_6_code 25 = .ok (.ifCond .gt 8, 3) := by decide +kernel
theorem dse_28 : decode prog_1_method_6_code 28 = .ok (.aload_n 1, 1) := by decide +kernel
theorem dse_29 : decode prog_1_method_6_code 29 = .ok (.invokestatic 51, 3) := by decide +kernel
theorem dse_32 : decode prog_1_method_6_code 32 = .ok (.astore_n 2, 1) := by decide +kernel
theorem dse_33 : decode prog_1_method_6_code 33 = .ok (.aload_n 2, 1) := by decide +kernel
theorem dse_34 : decode prog_1_method_6_code 34 = .ok (.areturn, 1) := by decide +kernel
set_option maxRecDepth 65536 in
set_option maxHeartbeats 40000000 in
theorem rm_se (l : Launch) (Z : State) (a0 : Array Value) (hw : ∀ d ∈ tables_1, d.before a0 Z = true) (a1 sb b em : Addr) (kb : ClassId) (ds : List Int32) (mo zc : Int32) (fm : Value) (h0 : Heap) (O0 : Old Z Z.heap.size h0) (FT : Fld Z h0 a1 "com/example/hradcany/hradcany/authzen/AnswerText" "text" "Ljava/lang/StringBuilder;" (.ref sb)) (FM : Fld Z h0 a1 "com/example/hradcany/hradcany/authzen/AnswerText" "mostBytes" "I" (.int mo)) (hsb : own_SB Z h0 sb b kb ds) (hl : ds.length ≤ 15) (hP : own_P ds) (hmo : (ds.length : Int) ≤ mo.toInt) (SC : Sta Z Z.heap "java/lang/String" "COMPACT_STRINGS" "Z" (.int zc)) (hzc : ¬ zc = (0 : Int32)) (SI : Sta Z Z.heap "jdk/internal/util/Preconditions" "SIOOBE_FORMATTER" "Ljava/util/function/BiFunction;" fm) (rfm : fm.isRef = true) (SE : Sta Z Z.heap "java/util/Optional" "EMPTY" "Ljava/util/Optional;" (.ref em)) :
    own_Con l Z (⟨"com/example/hradcany/hradcany/authzen/AnswerText", "sent", "()Ljava/util/Optional;"⟩ : MethodName) prog_1_method_6_code 3 (some (.object "java/util/Optional")) ({ frames := 8, cells := 3, slots := 20, locals := 141 } : Room) #[(.ref a1)] h0 (fun v h L => ∃ a x1, v = some (.ref a) ∧ Fr Z.heap.size L ∧ Keep h0 h [] ∧ Exa Z h a "java/util/Optional" ∧ Fld Z h a "java/util/Optional" "value" "Ljava/lang/Object;" (.ref x1) ∧ own_Str Z h x1 ds) := by
  refine own_con (ls := #[.val (.ref a1), .unset, .unset]) (plainFor_of_name pn_com_example_hradcany_hradcany_authzen_AnswerText) (fun m => by first | (simp [entryFrame, mkF, argsToLocals, Value.category]; done) | rfl) ?_
  intro p e s m below meth c s₁ hx hby hml0 hown0 hnm0 hret0 hlk hZ X0 e0
  have hml : c.maxLocals = 3 := hml0
  have hown : s.vm.findClass "com/example/hradcany/hradcany/authzen/AnswerText" = some m.cls := hown0
  have hnm : meth.name = "sent" := hnm0
  have hret : meth.sig.returnType = (some (.object "java/util/Optional")) := hret0
  have F458 := Fr.nil Z.heap.size
  have F459 := Keep.refl h0 []
  refine own_step (T' := s₁) (g' := (mkF m 1 #[.val (.ref a1), .unset, .unset] [(.ref a1)])) (fun _ kk => XS.aloadN X0.here hx rfl (hb hby dse_0) rfl rfl kk) ?_
  obtain ⟨T460, X460, e460, st460⟩ := getF X0 hx hZ hown (host := "") (Or.inl (w42 hw)) Via.refl e0 FT (g := (mkF m 1 #[.val (.ref a1), .unset, .unset] [(.ref a1)])) rfl rfl (hb hby dse_1)
  refine own_step (T' := T460) (g' := (mkF m 4 #[.val (.ref a1), .unset, .unset] [(.ref sb)])) (fun _ kk => st460 _ kk) ?_
  obtain ⟨T461, L461, _, h461, X461, e461, ⟨na, rfl, Nc, Kc, ga, Sc⟩, st461⟩ := own_callV X460 hx hZ hown (w102 hw) (w103 hw) (w105 hw) (w104 hw) (w106 hw) (w24 hw) (by decide) hsb.1.1 (g := (mkF m 4 #[.val (.ref a1), .unset, .unset] [(.ref sb)])) rfl (by rw [hml]; rfl) (argsL := []) (rest := []) (rm_ts l Z a0 hw sb b kb ds zc _ O0 hsb hl SC hzc) e460 pd___Ljava_lang_String_ rfl rfl (W := 0) (by show 2 * 0 + _ ≤ _; first | exact Nat.le_of_eq rfl | simp [own_cref own_of_ref]) (hb hby dse_4) (by decide) (by decide) (by decide) (by decide)
  have F462 := Fr.app F458 Nc
  have F463 := FT.keep Kc nin0
  have F464 := FM.keep Kc nin0
  have F465 := hsb.1.keep Kc
  have F466 := O0.keep Kc all0
  have F467 := F459.trans Kc all0
  refine own_step (T' := T461) (g' := (mkF m 7 #[.val (.ref a1), .unset, .unset] [(.ref na)])) (fun _ kk => st461 _ kk) ?_
  obtain ⟨T469, L469, _, h469, X469, e469, ⟨rfl, Nq468, eh468⟩, st469⟩ := own_callS X461 hx hZ hown (w147 hw) (w148 hw) (w150 hw) (w149 hw) (by decide) (g := (mkF m 7 #[.val (.ref a1), .unset, .unset] [(.ref na)])) rfl (by rw [hml]; rfl) (argsL := [(.ref na)]) (rest := []) (rm_of l Z a0 hw na ds zc fm _ F466 Sc hP (by omega) SC hzc SI rfm) e461 pd__Ljava_lang_String__Ljava_lang_String_ rfl rfl (W := 0) (by show 2 * 0 + _ ≤ _; first | exact Nat.le_of_eq rfl | simp [own_cref own_of_ref]) (hb hby dse_7) (by decide) (by decide) (by decide) (by decide)
  have F470 := Fr.app F462 Nq468
  have F471 := e469.trans eh468
  refine own_step (T' := T469) (g' := (mkF m 10 #[.val (.ref a1), .unset, .unset] [(.ref na)])) (fun _ kk => st469 _ kk) ?_
  refine own_step (T' := T469) (g' := (mkF m 11 #[.val (.ref a1), .val (.ref na), .unset] [])) (fun _ kk => XS.astoreN X469.here hx rfl (hb hby dse_10) rfl rfl (l' := #[.val (.ref a1), .val (.ref na), .unset]) rfl kk) ?_
  obtain ⟨T473, L473, _, h473, X473, e473, ⟨rfl, Nq472, eh472⟩, st473⟩ := own_callS X469 hx hZ hown (w165 hw) (w166 hw) (w168 hw) (w167 hw) (by decide) (g := (mkF m 11 #[.val (.ref a1), .val (.ref na), .unset] [])) rfl (by rw [hml]; rfl) (argsL := []) (rest := []) (rm_oe l Z a0 hw em _ F466 SE) F471 pd___Ljava_util_Optional_ rfl rfl (W := 0) (by show 2 * 0 + _ ≤ _; first | exact Nat.le_of_eq rfl | simp [own_cref own_of_ref]) (hb hby dse_11) (by decide) (by decide) (by decide) (by decide)
  have F474 := Fr.app F470 Nq472
  have F475 := e473.trans eh472
  refine own_step (T' := T473) (g' := (mkF m 14 #[.val (.ref a1), .val (.ref na), .unset] [(.ref em)])) (fun _ kk => st473 _ kk) ?_
  refine own_step (T' := T473) (g' := (mkF m 15 #[.val (.ref a1), .val (.ref na), .val (.ref em)] [])) (fun _ kk => XS.astoreN X473.here hx rfl (hb hby dse_14) rfl rfl (l' := #[.val (.ref a1), .val (.ref na), .val (.ref em)]) rfl kk) ?_
  refine own_step (T' := T473) (g' := (mkF m 16 #[.val (.ref a1), .val (.ref na), .val (.ref em)] [(.ref na)])) (fun _ kk => XS.aloadN X473.here hx rfl (hb hby dse_15) rfl rfl kk) ?_
  obtain ⟨T477, L477, _, h477, X477, e477, ⟨rfl, Nq476, eh476⟩, st477⟩ := own_callS X473 hx hZ hown (w170 hw) (w171 hw) (w172 hw) (w8 hw) (by decide) (g := (mkF m 16 #[.val (.ref a1), .val (.ref na), .val (.ref em)] [(.ref na)])) rfl (by rw [hml]; rfl) (argsL := [(.ref na)]) (rest := []) (rm_ul l Z a0 hw na ds zc fm _ F466 Sc hP (by omega) SC hzc SI rfm) F475 pd__Ljava_lang_String__J rfl rfl (W := 0) (by show 2 * 0 + _ ≤ _; first | exact Nat.le_of_eq rfl | simp [own_cref own_of_ref]) (hb hby dse_16) (by decide) (by decide) (by decide) (by decide)
  have F478 := Fr.app F474 Nq476
  have F479 := e477.trans eh476
  refine own_step (T' := T477) (g' := (mkF m 19 #[.val (.ref a1), .val (.ref na), .val (.ref em)] [(.long (Int64.ofNat ds.length))])) (fun _ kk => st477 _ kk) ?_
  refine own_step (T' := T477) (g' := (mkF m 20 #[.val (.ref a1), .val (.ref na), .val (.ref em)] [(.ref a1), (.long (Int64.ofNat ds.length))])) (fun _ kk => XS.aloadN X477.here hx rfl (hb hby dse_19) rfl rfl kk) ?_
  obtain ⟨T480, X480, e480, st480⟩ := getF X477 hx hZ hown (host := "") (Or.inl (w44 hw)) Via.refl F479 F464 (g := (mkF m 20 #[.val (.ref a1), .val (.ref na), .val (.ref em)] [(.ref a1), (.long (Int64.ofNat ds.length))])) rfl rfl (hb hby dse_20)
  refine own_step (T' := T480) (g' := (mkF m 23 #[.val (.ref a1), .val (.ref na), .val (.ref em)] [(.int mo), (.long (Int64.ofNat ds.length))])) (fun _ kk => st480 _ kk) ?_
  refine own_step (T' := T480) (g' := (mkF m 24 #[.val (.ref a1), .val (.ref na), .val (.ref em)] [(.long (mo.toInt64)), (.long (Int64.ofNat ds.length))])) (fun _ kk => XS.i2l X480.here hx rfl (hb hby dse_23) rfl kk) ?_
  refine own_step (T' := T480) (g' := (mkF m 25 #[.val (.ref a1), .val (.ref na), .val (.ref em)] [(.int (lcmpW (Int64.ofNat ds.length) (mo.toInt64)))])) (fun _ kk => XS.lcmp X480.here hx rfl (hb hby dse_24) rfl kk) ?_
  refine own_step (T' := T480) (g' := (mkF m 28 #[.val (.ref a1), .val (.ref na), .val (.ref em)] [])) (fun _ kk => XS.ifNo X480.here hx rfl (hb hby dse_25) rfl ((if0 _ _).trans (flt (own_lcm (by omega) hmo)).2.2.1) kk) ?_
  refine own_step (T' := T480) (g' := (mkF m 29 #[.val (.ref a1), .val (.ref na), .val (.ref em)] [(.ref na)])) (fun _ kk => XS.aloadN X480.here hx rfl (hb hby dse_28) rfl rfl kk) ?_
  obtain ⟨T481, L481, _, h481, X481, e481, ⟨no, rfl, No, Ko, Eo, Fo⟩, st481⟩ := own_callS X480 hx hZ hown (w174 hw) (w175 hw) (w176 hw) (w167 hw) (by decide) (g := (mkF m 29 #[.val (.ref a1), .val (.ref na), .val (.ref em)] [(.ref na)])) rfl (by rw [hml]; rfl) (argsL := [(.ref na)]) (rest := []) (rm_oo l Z a0 hw na _ F466) e480 pd__Ljava_lang_Object__Ljava_util_Optional_ rfl rfl (W := 0) (by show 2 * 0 + _ ≤ _; first | exact Nat.le_of_eq rfl | simp [own_cref own_of_ref]) (hb hby dse_29) (by decide) (by decide) (by decide) (by decide)
  have F482 := Fr.app F478 No
  have F483 := F463.keep Ko nin0
  have F484 := F464.keep Ko nin0
  have F485 := F465.keep Ko
  have F486 := F466.keep Ko all0
  have F487 := F467.trans Ko all0
  refine own_step (T' := T481) (g' := (mkF m 32 #[.val (.ref a1), .val (.ref na), .val (.ref em)] [(.ref no)])) (fun _ kk => st481 _ kk) ?_
  refine own_step (T' := T481) (g' := (mkF m 33 #[.val (.ref a1), .val (.ref na), .val (.ref no)] [])) (fun _ kk => XS.astoreN X481.here hx rfl (hb hby dse_32) rfl rfl (l' := #[.val (.ref a1), .val (.ref na), .val (.ref no)]) rfl kk) ?_
  refine own_step (T' := T481) (g' := (mkF m 34 #[.val (.ref a1), .val (.ref na), .val (.ref no)] [(.ref no)])) (fun _ kk => XS.aloadN X481.here hx rfl (hb hby dse_33) rfl rfl kk) ?_
  exact own_retA X481 hx hlk (t := (.object "java/util/Optional")) hret rfl rfl rfl (hb hby dse_34) e481 ⟨no, na, rfl, F482, F487, Eo, Fo, Sc.keep Ko⟩ (by decide) (by decide)
theorem dok_0 : decode method_4_code 0 = .ok (.iload 5, 2) := by decide +kernel
theorem dok_2 : decode method_4_code 2 = .ok (.aload_n 0, 1) := by decide +kernel
theorem dok_3 : decode method_4_code 3 = .ok (.invokevirtual 35, 3) := by decide +kernel
theorem dok_6 : decode method_4_code 6 = .ok (.if_icmp .lt 5, 3) := by decide +kernel
theorem dok_9 : decode method_4_code 9 = .ok (.iconst 1, 1) := by decide +kernel
theorem dok_10 : decode method_4_code 10 = .ok (.ireturn, 1) := by decide +kernel
theorem dok_11 : decode method_4_code 11 = .ok (.iload 5, 2) := by decide +kernel
theorem dok_13 : decode method_4_code 13 = .ok (.iload_n 3, 1) := by decide +kernel
theorem dok_14 : decode method_4_code 14 = .ok (.if_icmp .ge 12, 3) := by decide +kernel
theorem dok_17 : decode method_4_code 17 = .ok (.aload_n 1, 1) := by decide +kernel
theorem dok_18 : decode method_4_code 18 = .ok (.iload_n 2, 1) := by decide +kernel
theorem dok_19 : decode method_4_code 19 = .ok (.iload 5, 2) := by decide +kernel
theorem dok_21 : decode method_4_code 21 = .ok (.iadd, 1) := by decide +kernel
theorem dok_22 : decode method_4_code 22 = .ok (.caload, 1) := by decide +kernel
theorem dok_23 : decode method_4_code 23 = .ok (.goto 12, 3) := by decide +kernel
theorem dok_26 : decode method_4_code 26 = .ok (.aload_n 1, 1) := by decide +kernel
theorem dok_27 : decode method_4_code 27 = .ok (.iload 4, 2) := by decide +kernel
theorem dok_29 : decode method_4_code 29 = .ok (.iload 5, 2) := by decide +kernel
theorem dok_31 : decode method_4_code 31 = .ok (.iadd, 1) := by decide +kernel
theorem dok_32 : decode method_4_code 32 = .ok (.iload_n 3, 1) := by decide +kernel
theorem dok_33 : decode method_4_code 33 = .ok (.isub, 1) := by decide +kernel
theorem dok_34 : decode method_4_code 34 = .ok (.caload, 1) := by decide +kernel
theorem dok_35 : decode method_4_code 35 = .ok (.istore 6, 2) := by decide +kernel
theorem dok_37 : decode method_4_code 37 = .ok (.aload_n 0, 1) := by decide +kernel
theorem dok_38 : decode method_4_code 38 = .ok (.iload 5, 2) := by decide +kernel
theorem dok_40 : decode method_4_code 40 = .ok (.invokevirtual 43, 3) := by decide +kernel
theorem dok_43 : decode method_4_code 43 = .ok (.iload 6, 2) := by decide +kernel
theorem dok_45 : decode method_4_code 45 = .ok (.if_icmp .ne 7, 3) := by decide +kernel
theorem dok_48 : decode method_4_code 48 = .ok (.iconst 1, 1) := by decide +kernel
theorem dok_49 : decode method_4_code 49 = .ok (.goto 4, 3) := by decide +kernel
theorem dok_52 : decode method_4_code 52 = .ok (.iconst 0, 1) := by decide +kernel
theorem dok_53 : decode method_4_code 53 = .ok (.ireturn, 1) := by decide +kernel
set_option maxRecDepth 65536 in
set_option maxHeartbeats 40000000 in
theorem rm_ok (l : Launch) (Z : State) (a0 : Array Value) (hw : ∀ d ∈ tables_1, d.before a0 Z = true) (a1 b1 : Addr) (kc : ClassId) (cs : List Int32) (o1 n1 o2 n2 i : Nat) (zc : Int32) (fm : Value) (h0 : Heap) (O0 : Old Z Z.heap.size h0) (hstr : own_Str Z h0 a1 (own_two cs o1 n1 o2 n2)) (hP : own_P (own_two cs o1 n1 o2 n2)) (hA : Arv Z h0 b1 kc .char (Int32.ofNat cs.length) (cs.map Value.int) (.int 0)) (hl : cs.length ≤ 1000) (h1 : o1 + n1 ≤ cs.length) (h2 : o2 + n2 ≤ cs.length) (hi8 : i ≤ 1000) (SC : Sta Z Z.heap "java/lang/String" "COMPACT_STRINGS" "Z" (.int zc)) (hzc : ¬ zc = (0 : Int32)) (SI : Sta Z Z.heap "jdk/internal/util/Preconditions" "SIOOBE_FORMATTER" "Ljava/util/function/BiFunction;" fm) (rfm : fm.isRef = true) :
    own_Con l Z (⟨"com/example/hradcany/hradcany/authzen/AnswerTextWrite122PinLaw", "ok", "(Ljava/lang/String;[CIIII)Z"⟩ : MethodName) method_4_code 7 (some .boolean) ({ frames := 4, cells := 0, slots := 0, locals := 53 } : Room) #[(.ref a1), (.ref b1), (.int (Int32.ofNat o1)), (.int (Int32.ofNat n1)), (.int (Int32.ofNat o2)), (.int (Int32.ofNat i))] h0 (fun v h L => v = some (.int (1 : Int32)) ∧ Fr Z.heap.size L ∧ h = h0) := by
  refine own_con (ls := #[.val (.ref a1), .val (.ref b1), .val (.int (Int32.ofNat o1)), .val (.int (Int32.ofNat n1)), .val (.int (Int32.ofNat o2)), .val (.int (Int32.ofNat i)), .unset]) (plainFor_of_name pn_com_example_hradcany_hradcany_authzen_AnswerTextWrite122PinLaw) (fun m => by first | (simp [entryFrame, mkF, argsToLocals, Value.category]; done) | rfl) ?_
  intro p e s m below meth c s₁ hx hby hml0 hown0 hnm0 hret0 hlk hZ X0 e0
  have hml : c.maxLocals = 7 := hml0
  have hown : s.vm.findClass "com/example/hradcany/hradcany/authzen/AnswerTextWrite122PinLaw" = some m.cls := hown0
  have hnm : meth.name = "ok" := hnm0
  have hret : meth.sig.returnType = (some .boolean) := hret0
  have F488 := Fr.nil Z.heap.size
  have F489 := Keep.refl h0 []
  have hL := own_twoL (n2 := n2) h1 h2
  have hl2 : (own_two cs o1 n1 o2 n2).length ≤ 4000 := by omega
  refine own_step (T' := s₁) (g' := (mkF m 2 #[.val (.ref a1), .val (.ref b1), .val (.int (Int32.ofNat o1)), .val (.int (Int32.ofNat n1)), .val (.int (Int32.ofNat o2)), .val (.int (Int32.ofNat i)), .unset] [(.int (Int32.ofNat i))])) (fun _ kk => XS.iload X0.here hx rfl (hb hby dok_0) rfl kk) ?_
  refine own_step (T' := s₁) (g' := (mkF m 3 #[.val (.ref a1), .val (.ref b1), .val (.int (Int32.ofNat o1)), .val (.int (Int32.ofNat n1)), .val (.int (Int32.ofNat o2)), .val (.int (Int32.ofNat i)), .unset] [(.ref a1), (.int (Int32.ofNat i))])) (fun _ kk => XS.aloadN X0.here hx rfl (hb hby dok_2) rfl rfl kk) ?_
  obtain ⟨T491, L491, _, h491, X491, e491, ⟨rfl, Nq490, eh490⟩, st491⟩ := own_callV X0 hx hZ hown (w196 hw) (w155 hw) (w157 hw) (w156 hw) (w158 hw) (w36 hw) (by decide) (own_Str.exa hstr) (g := (mkF m 3 #[.val (.ref a1), .val (.ref b1), .val (.int (Int32.ofNat o1)), .val (.int (Int32.ofNat n1)), .val (.int (Int32.ofNat o2)), .val (.int (Int32.ofNat i)), .unset] [(.ref a1), (.int (Int32.ofNat i))])) rfl (by rw [hml]; rfl) (argsL := []) (rest := [(.int (Int32.ofNat i))]) (rm_ln l Z a0 hw a1 (own_two cs o1 n1 o2 n2) zc _ O0 hstr SC hzc) e0 pd___I rfl rfl (W := 1) (by show 2 * 0 + _ ≤ _; first | exact Nat.le_of_eq rfl | simp [own_cref own_of_ref]) (hb hby dok_3) (by decide) (by decide) (by decide) (by decide)
  have F492 := Fr.app F488 Nq490
  have F493 := e491.trans eh490
  refine own_step (T' := T491) (g' := (mkF m 6 #[.val (.ref a1), .val (.ref b1), .val (.int (Int32.ofNat o1)), .val (.int (Int32.ofNat n1)), .val (.int (Int32.ofNat o2)), .val (.int (Int32.ofNat i)), .unset] [(.int (Int32.ofNat (own_two cs o1 n1 o2 n2).length)), (.int (Int32.ofNat i))])) (fun _ kk => st491 _ kk) ?_
  by_cases c494 : (Int32.ofNat i) < (Int32.ofNat (own_two cs o1 n1 o2 n2).length)
  · refine own_step (T' := T491) (g' := (mkF m 11 #[.val (.ref a1), .val (.ref b1), .val (.int (Int32.ofNat o1)), .val (.int (Int32.ofNat n1)), .val (.int (Int32.ofNat o2)), .val (.int (Int32.ofNat i)), .unset] [])) (fun _ kk => XS.icmpYes X491.here hx rfl (pc0 := 6) (pc' := 11) rfl (hb hby dok_6) rfl (tlt c494).1 (by decide) (by decide) kk) ?_
    have hil := own_nl (by omega) (by omega) c494
    refine own_step (T' := T491) (g' := (mkF m 13 #[.val (.ref a1), .val (.ref b1), .val (.int (Int32.ofNat o1)), .val (.int (Int32.ofNat n1)), .val (.int (Int32.ofNat o2)), .val (.int (Int32.ofNat i)), .unset] [(.int (Int32.ofNat i))])) (fun _ kk => XS.iload X491.here hx rfl (hb hby dok_11) rfl kk) ?_
    refine own_step (T' := T491) (g' := (mkF m 14 #[.val (.ref a1), .val (.ref b1), .val (.int (Int32.ofNat o1)), .val (.int (Int32.ofNat n1)), .val (.int (Int32.ofNat o2)), .val (.int (Int32.ofNat i)), .unset] [(.int (Int32.ofNat n1)), (.int (Int32.ofNat i))])) (fun _ kk => XS.iloadN X491.here hx rfl (hb hby dok_13) rfl kk) ?_
    by_cases c495 : (Int32.ofNat i) < (Int32.ofNat n1)
    · refine own_step (T' := T491) (g' := (mkF m 17 #[.val (.ref a1), .val (.ref b1), .val (.int (Int32.ofNat o1)), .val (.int (Int32.ofNat n1)), .val (.int (Int32.ofNat o2)), .val (.int (Int32.ofNat i)), .unset] [])) (fun _ kk => XS.icmpNo X491.here hx rfl (hb hby dok_14) rfl (tlt c495).2.1 kk) ?_
      have hin := own_nl (by omega) (by omega) c495
      refine own_step (T' := T491) (g' := (mkF m 18 #[.val (.ref a1), .val (.ref b1), .val (.int (Int32.ofNat o1)), .val (.int (Int32.ofNat n1)), .val (.int (Int32.ofNat o2)), .val (.int (Int32.ofNat i)), .unset] [(.ref b1)])) (fun _ kk => XS.aloadN X491.here hx rfl (hb hby dok_17) rfl rfl kk) ?_
      refine own_step (T' := T491) (g' := (mkF m 19 #[.val (.ref a1), .val (.ref b1), .val (.int (Int32.ofNat o1)), .val (.int (Int32.ofNat n1)), .val (.int (Int32.ofNat o2)), .val (.int (Int32.ofNat i)), .unset] [(.int (Int32.ofNat o1)), (.ref b1)])) (fun _ kk => XS.iloadN X491.here hx rfl (hb hby dok_18) rfl kk) ?_
      refine own_step (T' := T491) (g' := (mkF m 21 #[.val (.ref a1), .val (.ref b1), .val (.int (Int32.ofNat o1)), .val (.int (Int32.ofNat n1)), .val (.int (Int32.ofNat o2)), .val (.int (Int32.ofNat i)), .unset] [(.int (Int32.ofNat i)), (.int (Int32.ofNat o1)), (.ref b1)])) (fun _ kk => XS.iload X491.here hx rfl (hb hby dok_19) rfl kk) ?_
      refine own_step (T' := T491) (g' := (mkF m 22 #[.val (.ref a1), .val (.ref b1), .val (.int (Int32.ofNat o1)), .val (.int (Int32.ofNat n1)), .val (.int (Int32.ofNat o2)), .val (.int (Int32.ofNat i)), .unset] [(.int ((Int32.ofNat o1) + (Int32.ofNat i))), (.ref b1)])) (fun _ kk => XS.iadd X491.here hx rfl (hb hby dok_21) rfl kk) ?_
      rw [own_addn]
      refine own_step (T' := T491) (g' := (mkF m 23 #[.val (.ref a1), .val (.ref b1), .val (.int (Int32.ofNat o1)), .val (.int (Int32.ofNat n1)), .val (.int (Int32.ofNat o2)), .val (.int (Int32.ofNat i)), .unset] [(.int (cs.getD (o1 + i) 0))])) (fun _ kk => own_caload X491 hx hZ F493 hA ⟨own_nneg (by rw [own_ofn (by omega)]; omega), own_ltn (by omega) (by omega)⟩ (own_charat (by omega)) (g := (mkF m 22 #[.val (.ref a1), .val (.ref b1), .val (.int (Int32.ofNat o1)), .val (.int (Int32.ofNat n1)), .val (.int (Int32.ofNat o2)), .val (.int (Int32.ofNat i)), .unset] [(.int (Int32.ofNat (o1 + i))), (.ref b1)])) rfl rfl (hb hby dok_22) _ kk) ?_
      refine own_step (T' := T491) (g' := (mkF m 35 #[.val (.ref a1), .val (.ref b1), .val (.int (Int32.ofNat o1)), .val (.int (Int32.ofNat n1)), .val (.int (Int32.ofNat o2)), .val (.int (Int32.ofNat i)), .unset] [(.int (cs.getD (o1 + i) 0))])) (fun _ kk => XS.goto X491.here hx rfl (pc0 := 23) (pc' := 35) rfl (hb hby dok_23) (by decide) (by decide) kk) ?_
      refine own_step (T' := T491) (g' := (mkF m 37 #[.val (.ref a1), .val (.ref b1), .val (.int (Int32.ofNat o1)), .val (.int (Int32.ofNat n1)), .val (.int (Int32.ofNat o2)), .val (.int (Int32.ofNat i)), .val (.int (cs.getD (o1 + i) 0))] [])) (fun _ kk => XS.istore X491.here hx rfl (hb hby dok_35) rfl (l' := #[.val (.ref a1), .val (.ref b1), .val (.int (Int32.ofNat o1)), .val (.int (Int32.ofNat n1)), .val (.int (Int32.ofNat o2)), .val (.int (Int32.ofNat i)), .val (.int (cs.getD (o1 + i) 0))]) rfl kk) ?_
      refine own_step (T' := T491) (g' := (mkF m 38 #[.val (.ref a1), .val (.ref b1), .val (.int (Int32.ofNat o1)), .val (.int (Int32.ofNat n1)), .val (.int (Int32.ofNat o2)), .val (.int (Int32.ofNat i)), .val (.int (cs.getD (o1 + i) 0))] [(.ref a1)])) (fun _ kk => XS.aloadN X491.here hx rfl (hb hby dok_37) rfl rfl kk) ?_
      refine own_step (T' := T491) (g' := (mkF m 40 #[.val (.ref a1), .val (.ref b1), .val (.int (Int32.ofNat o1)), .val (.int (Int32.ofNat n1)), .val (.int (Int32.ofNat o2)), .val (.int (Int32.ofNat i)), .val (.int (cs.getD (o1 + i) 0))] [(.int (Int32.ofNat i)), (.ref a1)])) (fun _ kk => XS.iload X491.here hx rfl (hb hby dok_38) rfl kk) ?_
      obtain ⟨T497, L497, _, h497, X497, e497, ⟨rfl, Nq496, eh496⟩, st497⟩ := own_callV X491 hx hZ hown (w228 hw) (w208 hw) (w210 hw) (w209 hw) (w211 hw) (w36 hw) (by decide) (own_Str.exa hstr) (g := (mkF m 40 #[.val (.ref a1), .val (.ref b1), .val (.int (Int32.ofNat o1)), .val (.int (Int32.ofNat n1)), .val (.int (Int32.ofNat o2)), .val (.int (Int32.ofNat i)), .val (.int (cs.getD (o1 + i) 0))] [(.int (Int32.ofNat i)), (.ref a1)])) rfl (by rw [hml]; rfl) (argsL := [(.int (Int32.ofNat i))]) (rest := []) (rm_ch l Z a0 hw a1 (own_two cs o1 n1 o2 n2) zc i fm _ O0 hstr hP.B hl2 hil SC hzc SI rfm) F493 pd__I_C rfl rfl (W := 0) (by show 2 * 0 + _ ≤ _; first | exact Nat.le_of_eq rfl | simp [own_cref own_of_ref]) (hb hby dok_40) (by decide) (by decide) (by decide) (by decide)
      have F498 := Fr.app F492 Nq496
      have F499 := e497.trans eh496
      refine own_step (T' := T497) (g' := (mkF m 43 #[.val (.ref a1), .val (.ref b1), .val (.int (Int32.ofNat o1)), .val (.int (Int32.ofNat n1)), .val (.int (Int32.ofNat o2)), .val (.int (Int32.ofNat i)), .val (.int (cs.getD (o1 + i) 0))] [(.int ((own_two cs o1 n1 o2 n2).getD i 0))])) (fun _ kk => st497 _ kk) ?_
      refine own_step (T' := T497) (g' := (mkF m 45 #[.val (.ref a1), .val (.ref b1), .val (.int (Int32.ofNat o1)), .val (.int (Int32.ofNat n1)), .val (.int (Int32.ofNat o2)), .val (.int (Int32.ofNat i)), .val (.int (cs.getD (o1 + i) 0))] [(.int (cs.getD (o1 + i) 0)), (.int ((own_two cs o1 n1 o2 n2).getD i 0))])) (fun _ kk => XS.iload X497.here hx rfl (hb hby dok_43) rfl kk) ?_
      refine own_step (T' := T497) (g' := (mkF m 48 #[.val (.ref a1), .val (.ref b1), .val (.int (Int32.ofNat o1)), .val (.int (Int32.ofNat n1)), .val (.int (Int32.ofNat o2)), .val (.int (Int32.ofNat i)), .val (.int (cs.getD (o1 + i) 0))] [])) (fun _ kk => XS.icmpNo X497.here hx rfl (hb hby dok_45) rfl (teq (own_ok1 h1 hin)).2 kk) ?_
      refine own_step (T' := T497) (g' := (mkF m 49 #[.val (.ref a1), .val (.ref b1), .val (.int (Int32.ofNat o1)), .val (.int (Int32.ofNat n1)), .val (.int (Int32.ofNat o2)), .val (.int (Int32.ofNat i)), .val (.int (cs.getD (o1 + i) 0))] [(.int (1 : Int32))])) (fun _ kk => XS.iconst X497.here hx rfl (hb hby dok_48) kk) ?_
      refine own_step (T' := T497) (g' := (mkF m 53 #[.val (.ref a1), .val (.ref b1), .val (.int (Int32.ofNat o1)), .val (.int (Int32.ofNat n1)), .val (.int (Int32.ofNat o2)), .val (.int (Int32.ofNat i)), .val (.int (cs.getD (o1 + i) 0))] [(.int (1 : Int32))])) (fun _ kk => XS.goto X497.here hx rfl (pc0 := 49) (pc' := 53) rfl (hb hby dok_49) (by decide) (by decide) kk) ?_
      exact own_retN X497 hx hlk (t := .boolean) hret (by simp) (hb hby dok_53) F499 ⟨rfl, F498, rfl⟩ (by decide) (by decide)
    · refine own_step (T' := T491) (g' := (mkF m 26 #[.val (.ref a1), .val (.ref b1), .val (.int (Int32.ofNat o1)), .val (.int (Int32.ofNat n1)), .val (.int (Int32.ofNat o2)), .val (.int (Int32.ofNat i)), .unset] [])) (fun _ kk => XS.icmpYes X491.here hx rfl (pc0 := 14) (pc' := 26) rfl (hb hby dok_14) rfl (flt c495).2.1 (by decide) (by decide) kk) ?_
      have hin := own_nnl (by omega) (by omega) c495
      refine own_step (T' := T491) (g' := (mkF m 27 #[.val (.ref a1), .val (.ref b1), .val (.int (Int32.ofNat o1)), .val (.int (Int32.ofNat n1)), .val (.int (Int32.ofNat o2)), .val (.int (Int32.ofNat i)), .unset] [(.ref b1)])) (fun _ kk => XS.aloadN X491.here hx rfl (hb hby dok_26) rfl rfl kk) ?_
      refine own_step (T' := T491) (g' := (mkF m 29 #[.val (.ref a1), .val (.ref b1), .val (.int (Int32.ofNat o1)), .val (.int (Int32.ofNat n1)), .val (.int (Int32.ofNat o2)), .val (.int (Int32.ofNat i)), .unset] [(.int (Int32.ofNat o2)), (.ref b1)])) (fun _ kk => XS.iload X491.here hx rfl (hb hby dok_27) rfl kk) ?_
      refine own_step (T' := T491) (g' := (mkF m 31 #[.val (.ref a1), .val (.ref b1), .val (.int (Int32.ofNat o1)), .val (.int (Int32.ofNat n1)), .val (.int (Int32.ofNat o2)), .val (.int (Int32.ofNat i)), .unset] [(.int (Int32.ofNat i)), (.int (Int32.ofNat o2)), (.ref b1)])) (fun _ kk => XS.iload X491.here hx rfl (hb hby dok_29) rfl kk) ?_
      refine own_step (T' := T491) (g' := (mkF m 32 #[.val (.ref a1), .val (.ref b1), .val (.int (Int32.ofNat o1)), .val (.int (Int32.ofNat n1)), .val (.int (Int32.ofNat o2)), .val (.int (Int32.ofNat i)), .unset] [(.int ((Int32.ofNat o2) + (Int32.ofNat i))), (.ref b1)])) (fun _ kk => XS.iadd X491.here hx rfl (hb hby dok_31) rfl kk) ?_
      refine own_step (T' := T491) (g' := (mkF m 33 #[.val (.ref a1), .val (.ref b1), .val (.int (Int32.ofNat o1)), .val (.int (Int32.ofNat n1)), .val (.int (Int32.ofNat o2)), .val (.int (Int32.ofNat i)), .unset] [(.int (Int32.ofNat n1)), (.int ((Int32.ofNat o2) + (Int32.ofNat i))), (.ref b1)])) (fun _ kk => XS.iloadN X491.here hx rfl (hb hby dok_32) rfl kk) ?_
      refine own_step (T' := T491) (g' := (mkF m 34 #[.val (.ref a1), .val (.ref b1), .val (.int (Int32.ofNat o1)), .val (.int (Int32.ofNat n1)), .val (.int (Int32.ofNat o2)), .val (.int (Int32.ofNat i)), .unset] [(.int (((Int32.ofNat o2) + (Int32.ofNat i)) - (Int32.ofNat n1))), (.ref b1)])) (fun _ kk => XS.isub X491.here hx rfl (hb hby dok_33) rfl kk) ?_
      rw [own_addn, own_subn (by omega)]
      refine own_step (T' := T491) (g' := (mkF m 35 #[.val (.ref a1), .val (.ref b1), .val (.int (Int32.ofNat o1)), .val (.int (Int32.ofNat n1)), .val (.int (Int32.ofNat o2)), .val (.int (Int32.ofNat i)), .unset] [(.int (cs.getD (o2 + i - n1) 0))])) (fun _ kk => own_caload X491 hx hZ F493 hA ⟨own_nneg (by rw [own_ofn (by omega)]; omega), own_ltn (by omega) (by omega)⟩ (own_charat (by omega)) (g := (mkF m 34 #[.val (.ref a1), .val (.ref b1), .val (.int (Int32.ofNat o1)), .val (.int (Int32.ofNat n1)), .val (.int (Int32.ofNat o2)), .val (.int (Int32.ofNat i)), .unset] [(.int (Int32.ofNat (o2 + i - n1))), (.ref b1)])) rfl rfl (hb hby dok_34) _ kk) ?_
      refine own_step (T' := T491) (g' := (mkF m 37 #[.val (.ref a1), .val (.ref b1), .val (.int (Int32.ofNat o1)), .val (.int (Int32.ofNat n1)), .val (.int (Int32.ofNat o2)), .val (.int (Int32.ofNat i)), .val (.int (cs.getD (o2 + i - n1) 0))] [])) (fun _ kk => XS.istore X491.here hx rfl (hb hby dok_35) rfl (l' := #[.val (.ref a1), .val (.ref b1), .val (.int (Int32.ofNat o1)), .val (.int (Int32.ofNat n1)), .val (.int (Int32.ofNat o2)), .val (.int (Int32.ofNat i)), .val (.int (cs.getD (o2 + i - n1) 0))]) rfl kk) ?_
      refine own_step (T' := T491) (g' := (mkF m 38 #[.val (.ref a1), .val (.ref b1), .val (.int (Int32.ofNat o1)), .val (.int (Int32.ofNat n1)), .val (.int (Int32.ofNat o2)), .val (.int (Int32.ofNat i)), .val (.int (cs.getD (o2 + i - n1) 0))] [(.ref a1)])) (fun _ kk => XS.aloadN X491.here hx rfl (hb hby dok_37) rfl rfl kk) ?_
      refine own_step (T' := T491) (g' := (mkF m 40 #[.val (.ref a1), .val (.ref b1), .val (.int (Int32.ofNat o1)), .val (.int (Int32.ofNat n1)), .val (.int (Int32.ofNat o2)), .val (.int (Int32.ofNat i)), .val (.int (cs.getD (o2 + i - n1) 0))] [(.int (Int32.ofNat i)), (.ref a1)])) (fun _ kk => XS.iload X491.here hx rfl (hb hby dok_38) rfl kk) ?_
      obtain ⟨T501, L501, _, h501, X501, e501, ⟨rfl, Nq500, eh500⟩, st501⟩ := own_callV X491 hx hZ hown (w228 hw) (w208 hw) (w210 hw) (w209 hw) (w211 hw) (w36 hw) (by decide) (own_Str.exa hstr) (g := (mkF m 40 #[.val (.ref a1), .val (.ref b1), .val (.int (Int32.ofNat o1)), .val (.int (Int32.ofNat n1)), .val (.int (Int32.ofNat o2)), .val (.int (Int32.ofNat i)), .val (.int (cs.getD (o2 + i - n1) 0))] [(.int (Int32.ofNat i)), (.ref a1)])) rfl (by rw [hml]; rfl) (argsL := [(.int (Int32.ofNat i))]) (rest := []) (rm_ch l Z a0 hw a1 (own_two cs o1 n1 o2 n2) zc i fm _ O0 hstr hP.B hl2 hil SC hzc SI rfm) F493 pd__I_C rfl rfl (W := 0) (by show 2 * 0 + _ ≤ _; first | exact Nat.le_of_eq rfl | simp [own_cref own_of_ref]) (hb hby dok_40) (by decide) (by decide) (by decide) (by decide)
      have F502 := Fr.app F492 Nq500
      have F503 := e501.trans eh500
      refine own_step (T' := T501) (g' := (mkF m 43 #[.val (.ref a1), .val (.ref b1), .val (.int (Int32.ofNat o1)), .val (.int (Int32.ofNat n1)), .val (.int (Int32.ofNat o2)), .val (.int (Int32.ofNat i)), .val (.int (cs.getD (o2 + i - n1) 0))] [(.int ((own_two cs o1 n1 o2 n2).getD i 0))])) (fun _ kk => st501 _ kk) ?_
      refine own_step (T' := T501) (g' := (mkF m 45 #[.val (.ref a1), .val (.ref b1), .val (.int (Int32.ofNat o1)), .val (.int (Int32.ofNat n1)), .val (.int (Int32.ofNat o2)), .val (.int (Int32.ofNat i)), .val (.int (cs.getD (o2 + i - n1) 0))] [(.int (cs.getD (o2 + i - n1) 0)), (.int ((own_two cs o1 n1 o2 n2).getD i 0))])) (fun _ kk => XS.iload X501.here hx rfl (hb hby dok_43) rfl kk) ?_
      refine own_step (T' := T501) (g' := (mkF m 48 #[.val (.ref a1), .val (.ref b1), .val (.int (Int32.ofNat o1)), .val (.int (Int32.ofNat n1)), .val (.int (Int32.ofNat o2)), .val (.int (Int32.ofNat i)), .val (.int (cs.getD (o2 + i - n1) 0))] [])) (fun _ kk => XS.icmpNo X501.here hx rfl (hb hby dok_45) rfl (teq (own_ok2 h1 hin (by omega))).2 kk) ?_
      refine own_step (T' := T501) (g' := (mkF m 49 #[.val (.ref a1), .val (.ref b1), .val (.int (Int32.ofNat o1)), .val (.int (Int32.ofNat n1)), .val (.int (Int32.ofNat o2)), .val (.int (Int32.ofNat i)), .val (.int (cs.getD (o2 + i - n1) 0))] [(.int (1 : Int32))])) (fun _ kk => XS.iconst X501.here hx rfl (hb hby dok_48) kk) ?_
      refine own_step (T' := T501) (g' := (mkF m 53 #[.val (.ref a1), .val (.ref b1), .val (.int (Int32.ofNat o1)), .val (.int (Int32.ofNat n1)), .val (.int (Int32.ofNat o2)), .val (.int (Int32.ofNat i)), .val (.int (cs.getD (o2 + i - n1) 0))] [(.int (1 : Int32))])) (fun _ kk => XS.goto X501.here hx rfl (pc0 := 49) (pc' := 53) rfl (hb hby dok_49) (by decide) (by decide) kk) ?_
      exact own_retN X501 hx hlk (t := .boolean) hret (by simp) (hb hby dok_53) F503 ⟨rfl, F502, rfl⟩ (by decide) (by decide)
  · refine own_step (T' := T491) (g' := (mkF m 9 #[.val (.ref a1), .val (.ref b1), .val (.int (Int32.ofNat o1)), .val (.int (Int32.ofNat n1)), .val (.int (Int32.ofNat o2)), .val (.int (Int32.ofNat i)), .unset] [])) (fun _ kk => XS.icmpNo X491.here hx rfl (hb hby dok_6) rfl (flt c494).1 kk) ?_
    refine own_step (T' := T491) (g' := (mkF m 10 #[.val (.ref a1), .val (.ref b1), .val (.int (Int32.ofNat o1)), .val (.int (Int32.ofNat n1)), .val (.int (Int32.ofNat o2)), .val (.int (Int32.ofNat i)), .unset] [(.int (1 : Int32))])) (fun _ kk => XS.iconst X491.here hx rfl (hb hby dok_9) kk) ?_
    exact own_retN X491 hx hlk (t := .boolean) hret (by simp) (hb hby dok_10) F493 ⟨rfl, F492, rfl⟩ (by decide) (by decide)
set_option maxRecDepth 65536 in
set_option maxHeartbeats 40000000 in
theorem rm_law (l : Launch) (Z : State) (a0 : Array Value) (hw : ∀ d ∈ tables_1, d.before a0 Z = true) (p0 p1 p2 p3 p4 p5 zc : Int32) (fm fi : Value) (em : Addr) (h0 : Heap) (O0 : Old Z Z.heap.size h0) (SC : Sta Z Z.heap "java/lang/String" "COMPACT_STRINGS" "Z" (.int zc)) (hzc : ¬ zc = (0 : Int32)) (SI : Sta Z Z.heap "jdk/internal/util/Preconditions" "SIOOBE_FORMATTER" "Ljava/util/function/BiFunction;" fm) (rfm : fm.isRef = true) (IO : Sta Z Z.heap "jdk/internal/util/Preconditions" "IOOBE_FORMATTER" "Ljava/util/function/BiFunction;" fi) (rfi : fi.isRef = true) (SE : Sta Z Z.heap "java/util/Optional" "EMPTY" "Ljava/util/Optional;" (.ref em)) :
    own_Con l Z x code maxLocals ret room_1 #[(.int p0), (.int p1), (.int p2), (.int p3), (.int p4), (.int p5)] h0 (fun v h L => v = some (.int 1) ∧ Fr Z.heap.size L) := by
  refine own_con (ls := #[.val (.int p0), .val (.int p1), .val (.int p2), .val (.int p3), .val (.int p4), .val (.int p5), .unset, .unset, .unset, .unset, .unset, .unset, .unset, .unset]) (plainFor_of_name pn_com_example_hradcany_hradcany_authzen_AnswerTextWrite122PinLaw) (fun m => by first | (simp [entryFrame, mkF, argsToLocals, Value.category, maxLocals]; done) | rfl) ?_
  intro p e s m below meth c s₁ hx hby hml0 hown0 hnm0 hret0 hlk hZ X0 e0
  have hml : c.maxLocals = 14 := hml0
  have hown : s.vm.findClass "com/example/hradcany/hradcany/authzen/AnswerTextWrite122PinLaw" = some m.cls := hown0
  have hnm : meth.name = "law" := hnm0
  have hret : meth.sig.returnType = (some .boolean) := hret0
  have F504 := Fr.nil Z.heap.size
  have F505 := Keep.refl h0 []
  refine own_step (T' := s₁) (g' := (mkF m 1 #[.val (.int p0), .val (.int p1), .val (.int p2), .val (.int p3), .val (.int p4), .val (.int p5), .unset, .unset, .unset, .unset, .unset, .unset, .unset, .unset] [(.int (4 : Int32))])) (fun _ kk => XS.iconst X0.here hx rfl (hb hby at_0) kk) ?_
  obtain ⟨T507, h507, cA507, X507, e507, E507, A507, st507⟩ := newP X0 hx hZ (aty := .char) (w0 hw) e0 (g := (mkF m 1 #[.val (.int p0), .val (.int p1), .val (.int p2), .val (.int p3), .val (.int p4), .val (.int p5), .unset, .unset, .unset, .unset, .unset, .unset, .unset, .unset] [(.int (4 : Int32))])) rfl (hb hby at_1) rfl (by decide) (cap := 4) (by decide) (by decide) (by decide) (by decide)
  obtain ⟨a506, g507⟩ : ∃ z, z = h0.size := ⟨_, rfl⟩
  rw [← g507] at A507 st507
  have ge508 : Z.heap.size ≤ a506 := by rw [g507]; exact O0.2.1
  have ng509 : h0.size ≤ a506 := by rw [g507]; exact F505.1
  have F510 := O0.ext E507
  have F511 := F505.ext E507
  have F512 : Arv Z h507 a506 cA507 .char (4 : Int32) [] (.int 0) := Arv.new A507 (by decide)
  refine own_step (T' := T507) (g' := (mkF m 3 #[.val (.int p0), .val (.int p1), .val (.int p2), .val (.int p3), .val (.int p4), .val (.int p5), .unset, .unset, .unset, .unset, .unset, .unset, .unset, .unset] [(.ref a506)])) (fun _ kk => st507 _ kk) ?_
  have F513 : Arv Z h507 a506 cA507 .char (4 : Int32) [(.int 0), (.int 0), (.int 0), (.int 0)] (.int 0) := Arv.pad F512 (pad_rep [] (.int 0) 4)
  refine own_step (T' := T507) (g' := (mkF m 5 #[.val (.int p0), .val (.int p1), .val (.int p2), .val (.int p3), .val (.int p4), .val (.int p5), .val (.ref a506), .unset, .unset, .unset, .unset, .unset, .unset, .unset] [])) (fun _ kk => XS.astore X507.here hx rfl (hb hby at_3) rfl rfl (l' := #[.val (.int p0), .val (.int p1), .val (.int p2), .val (.int p3), .val (.int p4), .val (.int p5), .val (.ref a506), .unset, .unset, .unset, .unset, .unset, .unset, .unset]) rfl kk) ?_
  refine own_step (T' := T507) (g' := (mkF m 7 #[.val (.int p0), .val (.int p1), .val (.int p2), .val (.int p3), .val (.int p4), .val (.int p5), .val (.ref a506), .unset, .unset, .unset, .unset, .unset, .unset, .unset] [(.ref a506)])) (fun _ kk => XS.aload X507.here hx rfl (hb hby at_5) rfl rfl kk) ?_
  refine own_step (T' := T507) (g' := (mkF m 8 #[.val (.int p0), .val (.int p1), .val (.int p2), .val (.int p3), .val (.int p4), .val (.int p5), .val (.ref a506), .unset, .unset, .unset, .unset, .unset, .unset, .unset] [(.int (0 : Int32)), (.ref a506)])) (fun _ kk => XS.iconst X507.here hx rfl (hb hby at_7) kk) ?_
  refine own_step (T' := T507) (g' := (mkF m 9 #[.val (.int p0), .val (.int p1), .val (.int p2), .val (.int p3), .val (.int p4), .val (.int p5), .val (.ref a506), .unset, .unset, .unset, .unset, .unset, .unset, .unset] [(.int p0), (.int (0 : Int32)), (.ref a506)])) (fun _ kk => XS.iloadN X507.here hx rfl (hb hby at_8) rfl kk) ?_
  refine own_step (T' := T507) (g' := (mkF m 10 #[.val (.int p0), .val (.int p1), .val (.int p2), .val (.int p3), .val (.int p4), .val (.int p5), .val (.ref a506), .unset, .unset, .unset, .unset, .unset, .unset, .unset] [(.int (0 : Int32)), (.int p0), (.int (0 : Int32)), (.ref a506)])) (fun _ kk => XS.iconst X507.here hx rfl (hb hby at_9) kk) ?_
  obtain ⟨T515, L515, _, h515, X515, e515, ⟨c0, rfl, Nq514, eh514, lo0_514, hi0_514⟩, st515⟩ := own_callS X507 hx hZ hown (w1 hw) (w2 hw) (w4 hw) (w3 hw) (by decide) (g := (mkF m 10 #[.val (.int p0), .val (.int p1), .val (.int p2), .val (.int p3), .val (.int p4), .val (.int p5), .val (.ref a506), .unset, .unset, .unset, .unset, .unset, .unset, .unset] [(.int (0 : Int32)), (.int p0), (.int (0 : Int32)), (.ref a506)])) rfl (by rw [hml]; rfl) (argsL := [(.int p0), (.int (0 : Int32))]) (rest := [(.int (0 : Int32)), (.ref a506)]) (rm_dr l Z a0 hw p0 (0 : Int32) _ F510) e507 pd__II_C rfl rfl (W := 2) (by show 2 * 0 + _ ≤ _; first | exact Nat.le_of_eq rfl | simp [own_cref own_of_ref]) (hb hby at_10) (by decide) (by decide) (by decide) (by decide)
  have F516 := Fr.app F504 Nq514
  have F517 := e515.trans eh514
  refine own_step (T' := T515) (g' := (mkF m 13 #[.val (.int p0), .val (.int p1), .val (.int p2), .val (.int p3), .val (.int p4), .val (.int p5), .val (.ref a506), .unset, .unset, .unset, .unset, .unset, .unset, .unset] [(.int c0), (.int (0 : Int32)), (.ref a506)])) (fun _ kk => st515 _ kk) ?_
  have b0 : 32 ≤ c0.toInt ∧ c0.toInt ≤ 126 := ⟨lo0_514, hi0_514⟩
  obtain ⟨Ac518, Ar518, q518, Sz518, Nn518, Hs518, Gs518⟩ := F513
  obtain ⟨T518, h518, X518, e518, W518, st518⟩ := stC X515 hx hZ F517 Ar518 (j := (0 : Int32)) (x := c0) (inb_of Sz518 ⟨by decide, by decide⟩) (g := (mkF m 13 #[.val (.int p0), .val (.int p1), .val (.int p2), .val (.int p3), .val (.int p4), .val (.int p5), .val (.ref a506), .unset, .unset, .unset, .unset, .unset, .unset, .unset] [(.int c0), (.int (0 : Int32)), (.ref a506)])) rfl rfl (hb hby at_13)
  have F519 := Fr.snoc X518 F516 ge508
  have F520 := F510.wr W518 ge508
  have F521 := F511.wr W518 (Or.inr ng509)
  have F522 : Arv Z h518 a506 cA507 .char (4 : Int32) [(.int c0), (.int 0), (.int 0), (.int 0)] (.int 0) := by
    have q := Arv.set Ar518 q518 Sz518 Nn518 Hs518 Gs518 (fits_nar_char _) W518 0 rfl (Nat.le_of_ble_eq_true rfl)
    rw [own_narc (by omega) (by omega)] at q
    exact q
  refine own_step (T' := T518) (g' := (mkF m 14 #[.val (.int p0), .val (.int p1), .val (.int p2), .val (.int p3), .val (.int p4), .val (.int p5), .val (.ref a506), .unset, .unset, .unset, .unset, .unset, .unset, .unset] [])) (fun _ kk => st518 _ kk) ?_
  refine own_step (T' := T518) (g' := (mkF m 16 #[.val (.int p0), .val (.int p1), .val (.int p2), .val (.int p3), .val (.int p4), .val (.int p5), .val (.ref a506), .unset, .unset, .unset, .unset, .unset, .unset, .unset] [(.ref a506)])) (fun _ kk => XS.aload X518.here hx rfl (hb hby at_14) rfl rfl kk) ?_
  refine own_step (T' := T518) (g' := (mkF m 17 #[.val (.int p0), .val (.int p1), .val (.int p2), .val (.int p3), .val (.int p4), .val (.int p5), .val (.ref a506), .unset, .unset, .unset, .unset, .unset, .unset, .unset] [(.int (1 : Int32)), (.ref a506)])) (fun _ kk => XS.iconst X518.here hx rfl (hb hby at_16) kk) ?_
  refine own_step (T' := T518) (g' := (mkF m 18 #[.val (.int p0), .val (.int p1), .val (.int p2), .val (.int p3), .val (.int p4), .val (.int p5), .val (.ref a506), .unset, .unset, .unset, .unset, .unset, .unset, .unset] [(.int p0), (.int (1 : Int32)), (.ref a506)])) (fun _ kk => XS.iloadN X518.here hx rfl (hb hby at_17) rfl kk) ?_
  refine own_step (T' := T518) (g' := (mkF m 19 #[.val (.int p0), .val (.int p1), .val (.int p2), .val (.int p3), .val (.int p4), .val (.int p5), .val (.ref a506), .unset, .unset, .unset, .unset, .unset, .unset, .unset] [(.int (1 : Int32)), (.int p0), (.int (1 : Int32)), (.ref a506)])) (fun _ kk => XS.iconst X518.here hx rfl (hb hby at_18) kk) ?_
  obtain ⟨T524, L524, _, h524, X524, e524, ⟨c1, rfl, Nq523, eh523, lo1_523, hi1_523⟩, st524⟩ := own_callS X518 hx hZ hown (w1 hw) (w2 hw) (w4 hw) (w3 hw) (by decide) (g := (mkF m 19 #[.val (.int p0), .val (.int p1), .val (.int p2), .val (.int p3), .val (.int p4), .val (.int p5), .val (.ref a506), .unset, .unset, .unset, .unset, .unset, .unset, .unset] [(.int (1 : Int32)), (.int p0), (.int (1 : Int32)), (.ref a506)])) rfl (by rw [hml]; rfl) (argsL := [(.int p0), (.int (1 : Int32))]) (rest := [(.int (1 : Int32)), (.ref a506)]) (rm_dr l Z a0 hw p0 (1 : Int32) _ F520) e518 pd__II_C rfl rfl (W := 2) (by show 2 * 0 + _ ≤ _; first | exact Nat.le_of_eq rfl | simp [own_cref own_of_ref]) (hb hby at_19) (by decide) (by decide) (by decide) (by decide)
  have F525 := Fr.app F519 Nq523
  have F526 := e524.trans eh523
  refine own_step (T' := T524) (g' := (mkF m 22 #[.val (.int p0), .val (.int p1), .val (.int p2), .val (.int p3), .val (.int p4), .val (.int p5), .val (.ref a506), .unset, .unset, .unset, .unset, .unset, .unset, .unset] [(.int c1), (.int (1 : Int32)), (.ref a506)])) (fun _ kk => st524 _ kk) ?_
  have b1 : 32 ≤ c1.toInt ∧ c1.toInt ≤ 126 := ⟨lo1_523, hi1_523⟩
  obtain ⟨Ac527, Ar527, q527, Sz527, Nn527, Hs527, Gs527⟩ := F522
  obtain ⟨T527, h527, X527, e527, W527, st527⟩ := stC X524 hx hZ F526 Ar527 (j := (1 : Int32)) (x := c1) (inb_of Sz527 ⟨by decide, by decide⟩) (g := (mkF m 22 #[.val (.int p0), .val (.int p1), .val (.int p2), .val (.int p3), .val (.int p4), .val (.int p5), .val (.ref a506), .unset, .unset, .unset, .unset, .unset, .unset, .unset] [(.int c1), (.int (1 : Int32)), (.ref a506)])) rfl rfl (hb hby at_22)
  have F528 := Fr.snoc X527 F525 ge508
  have F529 := F520.wr W527 ge508
  have F530 := F521.wr W527 (Or.inr ng509)
  have F531 : Arv Z h527 a506 cA507 .char (4 : Int32) [(.int c0), (.int c1), (.int 0), (.int 0)] (.int 0) := by
    have q := Arv.set Ar527 q527 Sz527 Nn527 Hs527 Gs527 (fits_nar_char _) W527 1 rfl (Nat.le_of_ble_eq_true rfl)
    rw [own_narc (by omega) (by omega)] at q
    exact q
  refine own_step (T' := T527) (g' := (mkF m 23 #[.val (.int p0), .val (.int p1), .val (.int p2), .val (.int p3), .val (.int p4), .val (.int p5), .val (.ref a506), .unset, .unset, .unset, .unset, .unset, .unset, .unset] [])) (fun _ kk => st527 _ kk) ?_
  refine own_step (T' := T527) (g' := (mkF m 25 #[.val (.int p0), .val (.int p1), .val (.int p2), .val (.int p3), .val (.int p4), .val (.int p5), .val (.ref a506), .unset, .unset, .unset, .unset, .unset, .unset, .unset] [(.ref a506)])) (fun _ kk => XS.aload X527.here hx rfl (hb hby at_23) rfl rfl kk) ?_
  refine own_step (T' := T527) (g' := (mkF m 26 #[.val (.int p0), .val (.int p1), .val (.int p2), .val (.int p3), .val (.int p4), .val (.int p5), .val (.ref a506), .unset, .unset, .unset, .unset, .unset, .unset, .unset] [(.int (2 : Int32)), (.ref a506)])) (fun _ kk => XS.iconst X527.here hx rfl (hb hby at_25) kk) ?_
  refine own_step (T' := T527) (g' := (mkF m 27 #[.val (.int p0), .val (.int p1), .val (.int p2), .val (.int p3), .val (.int p4), .val (.int p5), .val (.ref a506), .unset, .unset, .unset, .unset, .unset, .unset, .unset] [(.int p0), (.int (2 : Int32)), (.ref a506)])) (fun _ kk => XS.iloadN X527.here hx rfl (hb hby at_26) rfl kk) ?_
  refine own_step (T' := T527) (g' := (mkF m 28 #[.val (.int p0), .val (.int p1), .val (.int p2), .val (.int p3), .val (.int p4), .val (.int p5), .val (.ref a506), .unset, .unset, .unset, .unset, .unset, .unset, .unset] [(.int (2 : Int32)), (.int p0), (.int (2 : Int32)), (.ref a506)])) (fun _ kk => XS.iconst X527.here hx rfl (hb hby at_27) kk) ?_
  obtain ⟨T533, L533, _, h533, X533, e533, ⟨c2, rfl, Nq532, eh532, lo2_532, hi2_532⟩, st533⟩ := own_callS X527 hx hZ hown (w1 hw) (w2 hw) (w4 hw) (w3 hw) (by decide) (g := (mkF m 28 #[.val (.int p0), .val (.int p1), .val (.int p2), .val (.int p3), .val (.int p4), .val (.int p5), .val (.ref a506), .unset, .unset, .unset, .unset, .unset, .unset, .unset] [(.int (2 : Int32)), (.int p0), (.int (2 : Int32)), (.ref a506)])) rfl (by rw [hml]; rfl) (argsL := [(.int p0), (.int (2 : Int32))]) (rest := [(.int (2 : Int32)), (.ref a506)]) (rm_dr l Z a0 hw p0 (2 : Int32) _ F529) e527 pd__II_C rfl rfl (W := 2) (by show 2 * 0 + _ ≤ _; first | exact Nat.le_of_eq rfl | simp [own_cref own_of_ref]) (hb hby at_28) (by decide) (by decide) (by decide) (by decide)
  have F534 := Fr.app F528 Nq532
  have F535 := e533.trans eh532
  refine own_step (T' := T533) (g' := (mkF m 31 #[.val (.int p0), .val (.int p1), .val (.int p2), .val (.int p3), .val (.int p4), .val (.int p5), .val (.ref a506), .unset, .unset, .unset, .unset, .unset, .unset, .unset] [(.int c2), (.int (2 : Int32)), (.ref a506)])) (fun _ kk => st533 _ kk) ?_
  have b2 : 32 ≤ c2.toInt ∧ c2.toInt ≤ 126 := ⟨lo2_532, hi2_532⟩
  obtain ⟨Ac536, Ar536, q536, Sz536, Nn536, Hs536, Gs536⟩ := F531
  obtain ⟨T536, h536, X536, e536, W536, st536⟩ := stC X533 hx hZ F535 Ar536 (j := (2 : Int32)) (x := c2) (inb_of Sz536 ⟨by decide, by decide⟩) (g := (mkF m 31 #[.val (.int p0), .val (.int p1), .val (.int p2), .val (.int p3), .val (.int p4), .val (.int p5), .val (.ref a506), .unset, .unset, .unset, .unset, .unset, .unset, .unset] [(.int c2), (.int (2 : Int32)), (.ref a506)])) rfl rfl (hb hby at_31)
  have F537 := Fr.snoc X536 F534 ge508
  have F538 := F529.wr W536 ge508
  have F539 := F530.wr W536 (Or.inr ng509)
  have F540 : Arv Z h536 a506 cA507 .char (4 : Int32) [(.int c0), (.int c1), (.int c2), (.int 0)] (.int 0) := by
    have q := Arv.set Ar536 q536 Sz536 Nn536 Hs536 Gs536 (fits_nar_char _) W536 2 rfl (Nat.le_of_ble_eq_true rfl)
    rw [own_narc (by omega) (by omega)] at q
    exact q
  refine own_step (T' := T536) (g' := (mkF m 32 #[.val (.int p0), .val (.int p1), .val (.int p2), .val (.int p3), .val (.int p4), .val (.int p5), .val (.ref a506), .unset, .unset, .unset, .unset, .unset, .unset, .unset] [])) (fun _ kk => st536 _ kk) ?_
  refine own_step (T' := T536) (g' := (mkF m 34 #[.val (.int p0), .val (.int p1), .val (.int p2), .val (.int p3), .val (.int p4), .val (.int p5), .val (.ref a506), .unset, .unset, .unset, .unset, .unset, .unset, .unset] [(.ref a506)])) (fun _ kk => XS.aload X536.here hx rfl (hb hby at_32) rfl rfl kk) ?_
  refine own_step (T' := T536) (g' := (mkF m 35 #[.val (.int p0), .val (.int p1), .val (.int p2), .val (.int p3), .val (.int p4), .val (.int p5), .val (.ref a506), .unset, .unset, .unset, .unset, .unset, .unset, .unset] [(.int (3 : Int32)), (.ref a506)])) (fun _ kk => XS.iconst X536.here hx rfl (hb hby at_34) kk) ?_
  refine own_step (T' := T536) (g' := (mkF m 36 #[.val (.int p0), .val (.int p1), .val (.int p2), .val (.int p3), .val (.int p4), .val (.int p5), .val (.ref a506), .unset, .unset, .unset, .unset, .unset, .unset, .unset] [(.int p0), (.int (3 : Int32)), (.ref a506)])) (fun _ kk => XS.iloadN X536.here hx rfl (hb hby at_35) rfl kk) ?_
  refine own_step (T' := T536) (g' := (mkF m 37 #[.val (.int p0), .val (.int p1), .val (.int p2), .val (.int p3), .val (.int p4), .val (.int p5), .val (.ref a506), .unset, .unset, .unset, .unset, .unset, .unset, .unset] [(.int (3 : Int32)), (.int p0), (.int (3 : Int32)), (.ref a506)])) (fun _ kk => XS.iconst X536.here hx rfl (hb hby at_36) kk) ?_
  obtain ⟨T542, L542, _, h542, X542, e542, ⟨c3, rfl, Nq541, eh541, lo3_541, hi3_541⟩, st542⟩ := own_callS X536 hx hZ hown (w1 hw) (w2 hw) (w4 hw) (w3 hw) (by decide) (g := (mkF m 37 #[.val (.int p0), .val (.int p1), .val (.int p2), .val (.int p3), .val (.int p4), .val (.int p5), .val (.ref a506), .unset, .unset, .unset, .unset, .unset, .unset, .unset] [(.int (3 : Int32)), (.int p0), (.int (3 : Int32)), (.ref a506)])) rfl (by rw [hml]; rfl) (argsL := [(.int p0), (.int (3 : Int32))]) (rest := [(.int (3 : Int32)), (.ref a506)]) (rm_dr l Z a0 hw p0 (3 : Int32) _ F538) e536 pd__II_C rfl rfl (W := 2) (by show 2 * 0 + _ ≤ _; first | exact Nat.le_of_eq rfl | simp [own_cref own_of_ref]) (hb hby at_37) (by decide) (by decide) (by decide) (by decide)
  have F543 := Fr.app F537 Nq541
  have F544 := e542.trans eh541
  refine own_step (T' := T542) (g' := (mkF m 40 #[.val (.int p0), .val (.int p1), .val (.int p2), .val (.int p3), .val (.int p4), .val (.int p5), .val (.ref a506), .unset, .unset, .unset, .unset, .unset, .unset, .unset] [(.int c3), (.int (3 : Int32)), (.ref a506)])) (fun _ kk => st542 _ kk) ?_
  have b3 : 32 ≤ c3.toInt ∧ c3.toInt ≤ 126 := ⟨lo3_541, hi3_541⟩
  obtain ⟨Ac545, Ar545, q545, Sz545, Nn545, Hs545, Gs545⟩ := F540
  obtain ⟨T545, h545, X545, e545, W545, st545⟩ := stC X542 hx hZ F544 Ar545 (j := (3 : Int32)) (x := c3) (inb_of Sz545 ⟨by decide, by decide⟩) (g := (mkF m 40 #[.val (.int p0), .val (.int p1), .val (.int p2), .val (.int p3), .val (.int p4), .val (.int p5), .val (.ref a506), .unset, .unset, .unset, .unset, .unset, .unset, .unset] [(.int c3), (.int (3 : Int32)), (.ref a506)])) rfl rfl (hb hby at_40)
  have F546 := Fr.snoc X545 F543 ge508
  have F547 := F538.wr W545 ge508
  have F548 := F539.wr W545 (Or.inr ng509)
  have F549 : Arv Z h545 a506 cA507 .char (4 : Int32) [(.int c0), (.int c1), (.int c2), (.int c3)] (.int 0) := by
    have q := Arv.set Ar545 q545 Sz545 Nn545 Hs545 Gs545 (fits_nar_char _) W545 3 rfl (Nat.le_of_ble_eq_true rfl)
    rw [own_narc (by omega) (by omega)] at q
    exact q
  refine own_step (T' := T545) (g' := (mkF m 41 #[.val (.int p0), .val (.int p1), .val (.int p2), .val (.int p3), .val (.int p4), .val (.int p5), .val (.ref a506), .unset, .unset, .unset, .unset, .unset, .unset, .unset] [])) (fun _ kk => st545 _ kk) ?_
  refine own_step (T' := T545) (g' := (mkF m 42 #[.val (.int p0), .val (.int p1), .val (.int p2), .val (.int p3), .val (.int p4), .val (.int p5), .val (.ref a506), .unset, .unset, .unset, .unset, .unset, .unset, .unset] [(.int p1)])) (fun _ kk => XS.iloadN X545.here hx rfl (hb hby at_41) rfl kk) ?_
  refine own_step (T' := T545) (g' := (mkF m 44 #[.val (.int p0), .val (.int p1), .val (.int p2), .val (.int p3), .val (.int p4), .val (.int p5), .val (.ref a506), .unset, .unset, .unset, .unset, .unset, .unset, .unset] [(.int (2147483647 : Int32)), (.int p1)])) (fun _ kk => X545.ldcInt hx hown (mvT hZ (w5 hw)) (g := (mkF m 42 #[.val (.int p0), .val (.int p1), .val (.int p2), .val (.int p3), .val (.int p4), .val (.int p5), .val (.ref a506), .unset, .unset, .unset, .unset, .unset, .unset, .unset] [(.int p1)])) rfl (hb hby at_42) _ kk) ?_
  refine own_step (T' := T545) (g' := (mkF m 45 #[.val (.int p0), .val (.int p1), .val (.int p2), .val (.int p3), .val (.int p4), .val (.int p5), .val (.ref a506), .unset, .unset, .unset, .unset, .unset, .unset, .unset] [(.int (p1 &&& (2147483647 : Int32)))])) (fun _ kk => XS.iand X545.here hx rfl (hb hby at_44) rfl kk) ?_
  refine own_step (T' := T545) (g' := (mkF m 46 #[.val (.int p0), .val (.int p1), .val (.int p2), .val (.int p3), .val (.int p4), .val (.int p5), .val (.ref a506), .unset, .unset, .unset, .unset, .unset, .unset, .unset] [(.int (5 : Int32)), (.int (p1 &&& (2147483647 : Int32)))])) (fun _ kk => XS.iconst X545.here hx rfl (hb hby at_45) kk) ?_
  refine own_step (T' := T545) (g' := (mkF m 47 #[.val (.int p0), .val (.int p1), .val (.int p2), .val (.int p3), .val (.int p4), .val (.int p5), .val (.ref a506), .unset, .unset, .unset, .unset, .unset, .unset, .unset] [(.int ((p1 &&& (2147483647 : Int32)) % (5 : Int32)))])) (fun _ kk => iremM X545 hx rfl (hb hby at_46) rfl (by decide) kk) ?_
  obtain ⟨o1, ho1, eo1⟩ := own_len5 p1
  rw [eo1]
  refine own_step (T' := T545) (g' := (mkF m 49 #[.val (.int p0), .val (.int p1), .val (.int p2), .val (.int p3), .val (.int p4), .val (.int p5), .val (.ref a506), .val (.int (Int32.ofNat o1)), .unset, .unset, .unset, .unset, .unset, .unset] [])) (fun _ kk => XS.istore X545.here hx rfl (hb hby at_47) rfl (l' := #[.val (.int p0), .val (.int p1), .val (.int p2), .val (.int p3), .val (.int p4), .val (.int p5), .val (.ref a506), .val (.int (Int32.ofNat o1)), .unset, .unset, .unset, .unset, .unset, .unset]) rfl kk) ?_
  refine own_step (T' := T545) (g' := (mkF m 50 #[.val (.int p0), .val (.int p1), .val (.int p2), .val (.int p3), .val (.int p4), .val (.int p5), .val (.ref a506), .val (.int (Int32.ofNat o1)), .unset, .unset, .unset, .unset, .unset, .unset] [(.int p2)])) (fun _ kk => XS.iloadN X545.here hx rfl (hb hby at_49) rfl kk) ?_
  refine own_step (T' := T545) (g' := (mkF m 52 #[.val (.int p0), .val (.int p1), .val (.int p2), .val (.int p3), .val (.int p4), .val (.int p5), .val (.ref a506), .val (.int (Int32.ofNat o1)), .unset, .unset, .unset, .unset, .unset, .unset] [(.int (2147483647 : Int32)), (.int p2)])) (fun _ kk => X545.ldcInt hx hown (mvT hZ (w5 hw)) (g := (mkF m 50 #[.val (.int p0), .val (.int p1), .val (.int p2), .val (.int p3), .val (.int p4), .val (.int p5), .val (.ref a506), .val (.int (Int32.ofNat o1)), .unset, .unset, .unset, .unset, .unset, .unset] [(.int p2)])) rfl (hb hby at_50) _ kk) ?_
  refine own_step (T' := T545) (g' := (mkF m 53 #[.val (.int p0), .val (.int p1), .val (.int p2), .val (.int p3), .val (.int p4), .val (.int p5), .val (.ref a506), .val (.int (Int32.ofNat o1)), .unset, .unset, .unset, .unset, .unset, .unset] [(.int (p2 &&& (2147483647 : Int32)))])) (fun _ kk => XS.iand X545.here hx rfl (hb hby at_52) rfl kk) ?_
  refine own_step (T' := T545) (g' := (mkF m 54 #[.val (.int p0), .val (.int p1), .val (.int p2), .val (.int p3), .val (.int p4), .val (.int p5), .val (.ref a506), .val (.int (Int32.ofNat o1)), .unset, .unset, .unset, .unset, .unset, .unset] [(.int (5 : Int32)), (.int (p2 &&& (2147483647 : Int32)))])) (fun _ kk => XS.iconst X545.here hx rfl (hb hby at_53) kk) ?_
  refine own_step (T' := T545) (g' := (mkF m 56 #[.val (.int p0), .val (.int p1), .val (.int p2), .val (.int p3), .val (.int p4), .val (.int p5), .val (.ref a506), .val (.int (Int32.ofNat o1)), .unset, .unset, .unset, .unset, .unset, .unset] [(.int (Int32.ofNat o1)), (.int (5 : Int32)), (.int (p2 &&& (2147483647 : Int32)))])) (fun _ kk => XS.iload X545.here hx rfl (hb hby at_54) rfl kk) ?_
  refine own_step (T' := T545) (g' := (mkF m 57 #[.val (.int p0), .val (.int p1), .val (.int p2), .val (.int p3), .val (.int p4), .val (.int p5), .val (.ref a506), .val (.int (Int32.ofNat o1)), .unset, .unset, .unset, .unset, .unset, .unset] [(.int ((5 : Int32) - (Int32.ofNat o1))), (.int (p2 &&& (2147483647 : Int32)))])) (fun _ kk => XS.isub X545.here hx rfl (hb hby at_56) rfl kk) ?_
  rw [own_5 ho1]
  refine own_step (T' := T545) (g' := (mkF m 58 #[.val (.int p0), .val (.int p1), .val (.int p2), .val (.int p3), .val (.int p4), .val (.int p5), .val (.ref a506), .val (.int (Int32.ofNat o1)), .unset, .unset, .unset, .unset, .unset, .unset] [(.int ((p2 &&& (2147483647 : Int32)) % (Int32.ofNat (5 - o1))))])) (fun _ kk => iremM X545 hx rfl (hb hby at_57) rfl (own_5ne ho1) kk) ?_
  obtain ⟨n1, hn1, en1⟩ := own_cnt p2 ho1
  rw [en1]
  refine own_step (T' := T545) (g' := (mkF m 60 #[.val (.int p0), .val (.int p1), .val (.int p2), .val (.int p3), .val (.int p4), .val (.int p5), .val (.ref a506), .val (.int (Int32.ofNat o1)), .val (.int (Int32.ofNat n1)), .unset, .unset, .unset, .unset, .unset] [])) (fun _ kk => XS.istore X545.here hx rfl (hb hby at_58) rfl (l' := #[.val (.int p0), .val (.int p1), .val (.int p2), .val (.int p3), .val (.int p4), .val (.int p5), .val (.ref a506), .val (.int (Int32.ofNat o1)), .val (.int (Int32.ofNat n1)), .unset, .unset, .unset, .unset, .unset]) rfl kk) ?_
  refine own_step (T' := T545) (g' := (mkF m 61 #[.val (.int p0), .val (.int p1), .val (.int p2), .val (.int p3), .val (.int p4), .val (.int p5), .val (.ref a506), .val (.int (Int32.ofNat o1)), .val (.int (Int32.ofNat n1)), .unset, .unset, .unset, .unset, .unset] [(.int p3)])) (fun _ kk => XS.iloadN X545.here hx rfl (hb hby at_60) rfl kk) ?_
  refine own_step (T' := T545) (g' := (mkF m 63 #[.val (.int p0), .val (.int p1), .val (.int p2), .val (.int p3), .val (.int p4), .val (.int p5), .val (.ref a506), .val (.int (Int32.ofNat o1)), .val (.int (Int32.ofNat n1)), .unset, .unset, .unset, .unset, .unset] [(.int (2147483647 : Int32)), (.int p3)])) (fun _ kk => X545.ldcInt hx hown (mvT hZ (w5 hw)) (g := (mkF m 61 #[.val (.int p0), .val (.int p1), .val (.int p2), .val (.int p3), .val (.int p4), .val (.int p5), .val (.ref a506), .val (.int (Int32.ofNat o1)), .val (.int (Int32.ofNat n1)), .unset, .unset, .unset, .unset, .unset] [(.int p3)])) rfl (hb hby at_61) _ kk) ?_
  refine own_step (T' := T545) (g' := (mkF m 64 #[.val (.int p0), .val (.int p1), .val (.int p2), .val (.int p3), .val (.int p4), .val (.int p5), .val (.ref a506), .val (.int (Int32.ofNat o1)), .val (.int (Int32.ofNat n1)), .unset, .unset, .unset, .unset, .unset] [(.int (p3 &&& (2147483647 : Int32)))])) (fun _ kk => XS.iand X545.here hx rfl (hb hby at_63) rfl kk) ?_
  refine own_step (T' := T545) (g' := (mkF m 65 #[.val (.int p0), .val (.int p1), .val (.int p2), .val (.int p3), .val (.int p4), .val (.int p5), .val (.ref a506), .val (.int (Int32.ofNat o1)), .val (.int (Int32.ofNat n1)), .unset, .unset, .unset, .unset, .unset] [(.int (5 : Int32)), (.int (p3 &&& (2147483647 : Int32)))])) (fun _ kk => XS.iconst X545.here hx rfl (hb hby at_64) kk) ?_
  refine own_step (T' := T545) (g' := (mkF m 66 #[.val (.int p0), .val (.int p1), .val (.int p2), .val (.int p3), .val (.int p4), .val (.int p5), .val (.ref a506), .val (.int (Int32.ofNat o1)), .val (.int (Int32.ofNat n1)), .unset, .unset, .unset, .unset, .unset] [(.int ((p3 &&& (2147483647 : Int32)) % (5 : Int32)))])) (fun _ kk => iremM X545 hx rfl (hb hby at_65) rfl (by decide) kk) ?_
  obtain ⟨o2, ho2, eo2⟩ := own_len5 p3
  rw [eo2]
  refine own_step (T' := T545) (g' := (mkF m 68 #[.val (.int p0), .val (.int p1), .val (.int p2), .val (.int p3), .val (.int p4), .val (.int p5), .val (.ref a506), .val (.int (Int32.ofNat o1)), .val (.int (Int32.ofNat n1)), .val (.int (Int32.ofNat o2)), .unset, .unset, .unset, .unset] [])) (fun _ kk => XS.istore X545.here hx rfl (hb hby at_66) rfl (l' := #[.val (.int p0), .val (.int p1), .val (.int p2), .val (.int p3), .val (.int p4), .val (.int p5), .val (.ref a506), .val (.int (Int32.ofNat o1)), .val (.int (Int32.ofNat n1)), .val (.int (Int32.ofNat o2)), .unset, .unset, .unset, .unset]) rfl kk) ?_
  refine own_step (T' := T545) (g' := (mkF m 70 #[.val (.int p0), .val (.int p1), .val (.int p2), .val (.int p3), .val (.int p4), .val (.int p5), .val (.ref a506), .val (.int (Int32.ofNat o1)), .val (.int (Int32.ofNat n1)), .val (.int (Int32.ofNat o2)), .unset, .unset, .unset, .unset] [(.int p4)])) (fun _ kk => XS.iload X545.here hx rfl (hb hby at_68) rfl kk) ?_
  refine own_step (T' := T545) (g' := (mkF m 72 #[.val (.int p0), .val (.int p1), .val (.int p2), .val (.int p3), .val (.int p4), .val (.int p5), .val (.ref a506), .val (.int (Int32.ofNat o1)), .val (.int (Int32.ofNat n1)), .val (.int (Int32.ofNat o2)), .unset, .unset, .unset, .unset] [(.int (2147483647 : Int32)), (.int p4)])) (fun _ kk => X545.ldcInt hx hown (mvT hZ (w5 hw)) (g := (mkF m 70 #[.val (.int p0), .val (.int p1), .val (.int p2), .val (.int p3), .val (.int p4), .val (.int p5), .val (.ref a506), .val (.int (Int32.ofNat o1)), .val (.int (Int32.ofNat n1)), .val (.int (Int32.ofNat o2)), .unset, .unset, .unset, .unset] [(.int p4)])) rfl (hb hby at_70) _ kk) ?_
  refine own_step (T' := T545) (g' := (mkF m 73 #[.val (.int p0), .val (.int p1), .val (.int p2), .val (.int p3), .val (.int p4), .val (.int p5), .val (.ref a506), .val (.int (Int32.ofNat o1)), .val (.int (Int32.ofNat n1)), .val (.int (Int32.ofNat o2)), .unset, .unset, .unset, .unset] [(.int (p4 &&& (2147483647 : Int32)))])) (fun _ kk => XS.iand X545.here hx rfl (hb hby at_72) rfl kk) ?_
  refine own_step (T' := T545) (g' := (mkF m 74 #[.val (.int p0), .val (.int p1), .val (.int p2), .val (.int p3), .val (.int p4), .val (.int p5), .val (.ref a506), .val (.int (Int32.ofNat o1)), .val (.int (Int32.ofNat n1)), .val (.int (Int32.ofNat o2)), .unset, .unset, .unset, .unset] [(.int (5 : Int32)), (.int (p4 &&& (2147483647 : Int32)))])) (fun _ kk => XS.iconst X545.here hx rfl (hb hby at_73) kk) ?_
  refine own_step (T' := T545) (g' := (mkF m 76 #[.val (.int p0), .val (.int p1), .val (.int p2), .val (.int p3), .val (.int p4), .val (.int p5), .val (.ref a506), .val (.int (Int32.ofNat o1)), .val (.int (Int32.ofNat n1)), .val (.int (Int32.ofNat o2)), .unset, .unset, .unset, .unset] [(.int (Int32.ofNat o2)), (.int (5 : Int32)), (.int (p4 &&& (2147483647 : Int32)))])) (fun _ kk => XS.iload X545.here hx rfl (hb hby at_74) rfl kk) ?_
  refine own_step (T' := T545) (g' := (mkF m 77 #[.val (.int p0), .val (.int p1), .val (.int p2), .val (.int p3), .val (.int p4), .val (.int p5), .val (.ref a506), .val (.int (Int32.ofNat o1)), .val (.int (Int32.ofNat n1)), .val (.int (Int32.ofNat o2)), .unset, .unset, .unset, .unset] [(.int ((5 : Int32) - (Int32.ofNat o2))), (.int (p4 &&& (2147483647 : Int32)))])) (fun _ kk => XS.isub X545.here hx rfl (hb hby at_76) rfl kk) ?_
  rw [own_5 ho2]
  refine own_step (T' := T545) (g' := (mkF m 78 #[.val (.int p0), .val (.int p1), .val (.int p2), .val (.int p3), .val (.int p4), .val (.int p5), .val (.ref a506), .val (.int (Int32.ofNat o1)), .val (.int (Int32.ofNat n1)), .val (.int (Int32.ofNat o2)), .unset, .unset, .unset, .unset] [(.int ((p4 &&& (2147483647 : Int32)) % (Int32.ofNat (5 - o2))))])) (fun _ kk => iremM X545 hx rfl (hb hby at_77) rfl (own_5ne ho2) kk) ?_
  obtain ⟨n2, hn2, en2⟩ := own_cnt p4 ho2
  rw [en2]
  refine own_step (T' := T545) (g' := (mkF m 80 #[.val (.int p0), .val (.int p1), .val (.int p2), .val (.int p3), .val (.int p4), .val (.int p5), .val (.ref a506), .val (.int (Int32.ofNat o1)), .val (.int (Int32.ofNat n1)), .val (.int (Int32.ofNat o2)), .val (.int (Int32.ofNat n2)), .unset, .unset, .unset] [])) (fun _ kk => XS.istore X545.here hx rfl (hb hby at_78) rfl (l' := #[.val (.int p0), .val (.int p1), .val (.int p2), .val (.int p3), .val (.int p4), .val (.int p5), .val (.ref a506), .val (.int (Int32.ofNat o1)), .val (.int (Int32.ofNat n1)), .val (.int (Int32.ofNat o2)), .val (.int (Int32.ofNat n2)), .unset, .unset, .unset]) rfl kk) ?_
  refine own_step (T' := T545) (g' := (mkF m 82 #[.val (.int p0), .val (.int p1), .val (.int p2), .val (.int p3), .val (.int p4), .val (.int p5), .val (.ref a506), .val (.int (Int32.ofNat o1)), .val (.int (Int32.ofNat n1)), .val (.int (Int32.ofNat o2)), .val (.int (Int32.ofNat n2)), .unset, .unset, .unset] [(.int (Int32.ofNat n1))])) (fun _ kk => XS.iload X545.here hx rfl (hb hby at_80) rfl kk) ?_
  refine own_step (T' := T545) (g' := (mkF m 84 #[.val (.int p0), .val (.int p1), .val (.int p2), .val (.int p3), .val (.int p4), .val (.int p5), .val (.ref a506), .val (.int (Int32.ofNat o1)), .val (.int (Int32.ofNat n1)), .val (.int (Int32.ofNat o2)), .val (.int (Int32.ofNat n2)), .unset, .unset, .unset] [(.int (Int32.ofNat n2)), (.int (Int32.ofNat n1))])) (fun _ kk => XS.iload X545.here hx rfl (hb hby at_82) rfl kk) ?_
  refine own_step (T' := T545) (g' := (mkF m 85 #[.val (.int p0), .val (.int p1), .val (.int p2), .val (.int p3), .val (.int p4), .val (.int p5), .val (.ref a506), .val (.int (Int32.ofNat o1)), .val (.int (Int32.ofNat n1)), .val (.int (Int32.ofNat o2)), .val (.int (Int32.ofNat n2)), .unset, .unset, .unset] [(.int ((Int32.ofNat n1) + (Int32.ofNat n2)))])) (fun _ kk => XS.iadd X545.here hx rfl (hb hby at_84) rfl kk) ?_
  refine own_step (T' := T545) (g' := (mkF m 87 #[.val (.int p0), .val (.int p1), .val (.int p2), .val (.int p3), .val (.int p4), .val (.int p5), .val (.ref a506), .val (.int (Int32.ofNat o1)), .val (.int (Int32.ofNat n1)), .val (.int (Int32.ofNat o2)), .val (.int (Int32.ofNat n2)), .unset, .unset, .unset] [(.int p5), (.int ((Int32.ofNat n1) + (Int32.ofNat n2)))])) (fun _ kk => XS.iload X545.here hx rfl (hb hby at_85) rfl kk) ?_
  refine own_step (T' := T545) (g' := (mkF m 88 #[.val (.int p0), .val (.int p1), .val (.int p2), .val (.int p3), .val (.int p4), .val (.int p5), .val (.ref a506), .val (.int (Int32.ofNat o1)), .val (.int (Int32.ofNat n1)), .val (.int (Int32.ofNat o2)), .val (.int (Int32.ofNat n2)), .unset, .unset, .unset] [(.int (3 : Int32)), (.int p5), (.int ((Int32.ofNat n1) + (Int32.ofNat n2)))])) (fun _ kk => XS.iconst X545.here hx rfl (hb hby at_87) kk) ?_
  refine own_step (T' := T545) (g' := (mkF m 89 #[.val (.int p0), .val (.int p1), .val (.int p2), .val (.int p3), .val (.int p4), .val (.int p5), .val (.ref a506), .val (.int (Int32.ofNat o1)), .val (.int (Int32.ofNat n1)), .val (.int (Int32.ofNat o2)), .val (.int (Int32.ofNat n2)), .unset, .unset, .unset] [(.int (p5 &&& (3 : Int32))), (.int ((Int32.ofNat n1) + (Int32.ofNat n2)))])) (fun _ kk => XS.iand X545.here hx rfl (hb hby at_88) rfl kk) ?_
  refine own_step (T' := T545) (g' := (mkF m 90 #[.val (.int p0), .val (.int p1), .val (.int p2), .val (.int p3), .val (.int p4), .val (.int p5), .val (.ref a506), .val (.int (Int32.ofNat o1)), .val (.int (Int32.ofNat n1)), .val (.int (Int32.ofNat o2)), .val (.int (Int32.ofNat n2)), .unset, .unset, .unset] [(.int (((Int32.ofNat n1) + (Int32.ofNat n2)) + (p5 &&& (3 : Int32))))])) (fun _ kk => XS.iadd X545.here hx rfl (hb hby at_89) rfl kk) ?_
  rw [own_addn n1 n2]
  obtain ⟨k, hk3, ek⟩ := own_most p5 (show n1 + n2 ≤ 8 by omega)
  rw [ek]
  refine own_step (T' := T545) (g' := (mkF m 92 #[.val (.int p0), .val (.int p1), .val (.int p2), .val (.int p3), .val (.int p4), .val (.int p5), .val (.ref a506), .val (.int (Int32.ofNat o1)), .val (.int (Int32.ofNat n1)), .val (.int (Int32.ofNat o2)), .val (.int (Int32.ofNat n2)), .val (.int (Int32.ofNat (n1 + n2 + k))), .unset, .unset] [])) (fun _ kk => XS.istore X545.here hx rfl (hb hby at_90) rfl (l' := #[.val (.int p0), .val (.int p1), .val (.int p2), .val (.int p3), .val (.int p4), .val (.int p5), .val (.ref a506), .val (.int (Int32.ofNat o1)), .val (.int (Int32.ofNat n1)), .val (.int (Int32.ofNat o2)), .val (.int (Int32.ofNat n2)), .val (.int (Int32.ofNat (n1 + n2 + k))), .unset, .unset]) rfl kk) ?_
  obtain ⟨T550, h550, X550, e550, E550, A550, D550, U550, st550⟩ := newO X545 hx hZ hown (w6 hw) (w7 hw) (w8 hw) e545 (g := (mkF m 92 #[.val (.int p0), .val (.int p1), .val (.int p2), .val (.int p3), .val (.int p4), .val (.int p5), .val (.ref a506), .val (.int (Int32.ofNat o1)), .val (.int (Int32.ofNat n1)), .val (.int (Int32.ofNat o2)), .val (.int (Int32.ofNat n2)), .val (.int (Int32.ofNat (n1 + n2 + k))), .unset, .unset] [])) rfl (hb hby at_92) (by decide) (by decide)
  obtain ⟨ta, g550⟩ : ∃ z, z = h545.size := ⟨_, rfl⟩
  rw [← g550] at A550 D550 U550 st550
  have ne551 : a506 ≠ ta := Nat.ne_of_lt (by rw [g550]; exact F549.lt)
  have ge552 : Z.heap.size ≤ ta := by rw [g550]; exact F547.2.1
  have ng553 : h0.size ≤ ta := by rw [g550]; exact F548.1
  have F554 := F549.ext E550
  have F555 := F547.ext E550
  have F556 := F548.ext E550
  have F557 : own_Obj Z h550 ta "com/example/hradcany/hradcany/authzen/AnswerText" := own_Obj.new A550 U550
  refine own_step (T' := T550) (g' := (mkF m 95 #[.val (.int p0), .val (.int p1), .val (.int p2), .val (.int p3), .val (.int p4), .val (.int p5), .val (.ref a506), .val (.int (Int32.ofNat o1)), .val (.int (Int32.ofNat n1)), .val (.int (Int32.ofNat o2)), .val (.int (Int32.ofNat n2)), .val (.int (Int32.ofNat (n1 + n2 + k))), .unset, .unset] [(.ref ta)])) (fun _ kk => st550 _ kk) ?_
  refine own_step (T' := T550) (g' := (mkF m 96 #[.val (.int p0), .val (.int p1), .val (.int p2), .val (.int p3), .val (.int p4), .val (.int p5), .val (.ref a506), .val (.int (Int32.ofNat o1)), .val (.int (Int32.ofNat n1)), .val (.int (Int32.ofNat o2)), .val (.int (Int32.ofNat n2)), .val (.int (Int32.ofNat (n1 + n2 + k))), .unset, .unset] [(.ref ta), (.ref ta)])) (fun _ kk => XS.dup X550.here hx rfl (hb hby at_95) rfl rfl kk) ?_
  refine own_step (T' := T550) (g' := (mkF m 98 #[.val (.int p0), .val (.int p1), .val (.int p2), .val (.int p3), .val (.int p4), .val (.int p5), .val (.ref a506), .val (.int (Int32.ofNat o1)), .val (.int (Int32.ofNat n1)), .val (.int (Int32.ofNat o2)), .val (.int (Int32.ofNat n2)), .val (.int (Int32.ofNat (n1 + n2 + k))), .unset, .unset] [(.int (Int32.ofNat (n1 + n2 + k))), (.ref ta), (.ref ta)])) (fun _ kk => XS.iload X550.here hx rfl (hb hby at_96) rfl kk) ?_
  have hP4 : own_P [c0, c1, c2, c3] := fun c hc => by
    simp only [List.mem_cons, List.not_mem_nil, or_false] at hc
    rcases hc with rfl | rfl | rfl | rfl <;> assumption
  obtain ⟨T558, L558, _, h558, X558, e558, ⟨sb, b, kb, rfl, Nt, Kt, gs, gb, nsb, FT, FM, SB0⟩, st558⟩ := own_callC X550 hx hZ hown rfl (w9 hw) (w10 hw) (w11 hw) (w8 hw) (by decide) (a := ta) (g := (mkF m 98 #[.val (.int p0), .val (.int p1), .val (.int p2), .val (.int p3), .val (.int p4), .val (.int p5), .val (.ref a506), .val (.int (Int32.ofNat o1)), .val (.int (Int32.ofNat n1)), .val (.int (Int32.ofNat o2)), .val (.int (Int32.ofNat n2)), .val (.int (Int32.ofNat (n1 + n2 + k))), .unset, .unset] [(.int (Int32.ofNat (n1 + n2 + k))), (.ref ta), (.ref ta)])) rfl (by rw [hml]; rfl) (argsL := [(.int (Int32.ofNat (n1 + n2 + k)))]) (rest := [(.ref ta)]) (rm_ti l Z a0 hw ta (Int32.ofNat (n1 + n2 + k)) zc _ F555 F557 ge552 SC hzc) e550 pd__I_V rfl rfl (W := 1) (by show 2 * 0 + _ ≤ _; first | exact Nat.le_of_eq rfl | simp [own_cref own_of_ref]) (hb hby at_98) (by decide) (by decide) (by decide) (by decide)
  have ne559 : a506 ≠ sb := Nat.ne_of_lt (Nat.lt_of_lt_of_le F554.lt gs)
  have ne560 : ta ≠ sb := Nat.ne_of_lt (Nat.lt_of_lt_of_le F557.lt gs)
  have ne561 : a506 ≠ b := Nat.ne_of_lt (Nat.lt_of_lt_of_le F554.lt gb)
  have ne562 : ta ≠ b := Nat.ne_of_lt (Nat.lt_of_lt_of_le F557.lt gb)
  have F563 := Nat.le_trans F555.2.1 gs
  have F564 := Nat.le_trans F555.2.1 gb
  have F565 := Fr.app F546 Nt
  have F566 := F554.keep Kt (ninS ne551 nin0)
  have F567 := F557.keep Kt
  have F568 := F555.keep Kt (allS ge552 all0)
  refine own_step (T' := T558) (g' := (mkF m 101 #[.val (.int p0), .val (.int p1), .val (.int p2), .val (.int p3), .val (.int p4), .val (.int p5), .val (.ref a506), .val (.int (Int32.ofNat o1)), .val (.int (Int32.ofNat n1)), .val (.int (Int32.ofNat o2)), .val (.int (Int32.ofNat n2)), .val (.int (Int32.ofNat (n1 + n2 + k))), .unset, .unset] [(.ref ta)])) (fun _ kk => st558 _ kk) ?_
  refine own_step (T' := T558) (g' := (mkF m 103 #[.val (.int p0), .val (.int p1), .val (.int p2), .val (.int p3), .val (.int p4), .val (.int p5), .val (.ref a506), .val (.int (Int32.ofNat o1)), .val (.int (Int32.ofNat n1)), .val (.int (Int32.ofNat o2)), .val (.int (Int32.ofNat n2)), .val (.int (Int32.ofNat (n1 + n2 + k))), .val (.ref ta), .unset] [])) (fun _ kk => XS.astore X558.here hx rfl (hb hby at_101) rfl rfl (l' := #[.val (.int p0), .val (.int p1), .val (.int p2), .val (.int p3), .val (.int p4), .val (.int p5), .val (.ref a506), .val (.int (Int32.ofNat o1)), .val (.int (Int32.ofNat n1)), .val (.int (Int32.ofNat o2)), .val (.int (Int32.ofNat n2)), .val (.int (Int32.ofNat (n1 + n2 + k))), .val (.ref ta), .unset]) rfl kk) ?_
  refine own_step (T' := T558) (g' := (mkF m 105 #[.val (.int p0), .val (.int p1), .val (.int p2), .val (.int p3), .val (.int p4), .val (.int p5), .val (.ref a506), .val (.int (Int32.ofNat o1)), .val (.int (Int32.ofNat n1)), .val (.int (Int32.ofNat o2)), .val (.int (Int32.ofNat n2)), .val (.int (Int32.ofNat (n1 + n2 + k))), .val (.ref ta), .unset] [(.ref ta)])) (fun _ kk => XS.aload X558.here hx rfl (hb hby at_103) rfl rfl kk) ?_
  refine own_step (T' := T558) (g' := (mkF m 107 #[.val (.int p0), .val (.int p1), .val (.int p2), .val (.int p3), .val (.int p4), .val (.int p5), .val (.ref a506), .val (.int (Int32.ofNat o1)), .val (.int (Int32.ofNat n1)), .val (.int (Int32.ofNat o2)), .val (.int (Int32.ofNat n2)), .val (.int (Int32.ofNat (n1 + n2 + k))), .val (.ref ta), .unset] [(.ref a506), (.ref ta)])) (fun _ kk => XS.aload X558.here hx rfl (hb hby at_105) rfl rfl kk) ?_
  refine own_step (T' := T558) (g' := (mkF m 109 #[.val (.int p0), .val (.int p1), .val (.int p2), .val (.int p3), .val (.int p4), .val (.int p5), .val (.ref a506), .val (.int (Int32.ofNat o1)), .val (.int (Int32.ofNat n1)), .val (.int (Int32.ofNat o2)), .val (.int (Int32.ofNat n2)), .val (.int (Int32.ofNat (n1 + n2 + k))), .val (.ref ta), .unset] [(.int (Int32.ofNat o1)), (.ref a506), (.ref ta)])) (fun _ kk => XS.iload X558.here hx rfl (hb hby at_107) rfl kk) ?_
  refine own_step (T' := T558) (g' := (mkF m 111 #[.val (.int p0), .val (.int p1), .val (.int p2), .val (.int p3), .val (.int p4), .val (.int p5), .val (.ref a506), .val (.int (Int32.ofNat o1)), .val (.int (Int32.ofNat n1)), .val (.int (Int32.ofNat o2)), .val (.int (Int32.ofNat n2)), .val (.int (Int32.ofNat (n1 + n2 + k))), .val (.ref ta), .unset] [(.int (Int32.ofNat n1)), (.int (Int32.ofNat o1)), (.ref a506), (.ref ta)])) (fun _ kk => XS.iload X558.here hx rfl (hb hby at_109) rfl kk) ?_
  obtain ⟨T569, L569, _, h569, X569, e569, ⟨rfl, Nw0, Kw0, SB1⟩, st569⟩ := own_callV X558 hx hZ hown (w46 hw) (w47 hw) (w49 hw) (w48 hw) (w50 hw) (w8 hw) (by decide) F567.1 (g := (mkF m 111 #[.val (.int p0), .val (.int p1), .val (.int p2), .val (.int p3), .val (.int p4), .val (.int p5), .val (.ref a506), .val (.int (Int32.ofNat o1)), .val (.int (Int32.ofNat n1)), .val (.int (Int32.ofNat o2)), .val (.int (Int32.ofNat n2)), .val (.int (Int32.ofNat (n1 + n2 + k))), .val (.ref ta), .unset] [(.int (Int32.ofNat n1)), (.int (Int32.ofNat o1)), (.ref a506), (.ref ta)])) rfl (by rw [hml]; rfl) (argsL := [(.ref a506), (.int (Int32.ofNat o1)), (.int (Int32.ofNat n1))]) (rest := []) (rm_wr l Z a0 hw ta sb b a506 kb cA507 [c0, c1, c2, c3] ([] : List Int32) o1 n1 (Int32.ofNat (n1 + n2 + k)) zc fi _ F568 FT FM F567.1 SB0 F566 hP4.B (by show 4 ≤ 4000; omega) F563 F564 nsb ne559 ne561 (by show _ ≤ 4; omega) (by show 0 + n1 ≤ 16; omega) SC hzc IO rfi (own_room (b := 0) (by omega) (by omega))) e558 pd___CII_V rfl rfl (W := 0) (by show 2 * 0 + _ ≤ _; first | exact Nat.le_of_eq rfl | simp [own_cref own_of_ref]) (hb hby at_111) (by decide) (by decide) (by decide) (by decide)
  have F570 := Fr.app F565 Nw0
  have F571 := F566.keep Kw0 (ninS ne559 (ninS ne561 nin0))
  have F572 := F567.keep Kw0
  have F573 := FT.keep Kw0 (ninS ne560 (ninS ne562 nin0))
  have F574 := FM.keep Kw0 (ninS ne560 (ninS ne562 nin0))
  have F575 := F568.keep Kw0 (allS F563 (allS F564 all0))
  refine own_step (T' := T569) (g' := (mkF m 114 #[.val (.int p0), .val (.int p1), .val (.int p2), .val (.int p3), .val (.int p4), .val (.int p5), .val (.ref a506), .val (.int (Int32.ofNat o1)), .val (.int (Int32.ofNat n1)), .val (.int (Int32.ofNat o2)), .val (.int (Int32.ofNat n2)), .val (.int (Int32.ofNat (n1 + n2 + k))), .val (.ref ta), .unset] [])) (fun _ kk => st569 _ kk) ?_
  refine own_step (T' := T569) (g' := (mkF m 116 #[.val (.int p0), .val (.int p1), .val (.int p2), .val (.int p3), .val (.int p4), .val (.int p5), .val (.ref a506), .val (.int (Int32.ofNat o1)), .val (.int (Int32.ofNat n1)), .val (.int (Int32.ofNat o2)), .val (.int (Int32.ofNat n2)), .val (.int (Int32.ofNat (n1 + n2 + k))), .val (.ref ta), .unset] [(.ref ta)])) (fun _ kk => XS.aload X569.here hx rfl (hb hby at_114) rfl rfl kk) ?_
  refine own_step (T' := T569) (g' := (mkF m 118 #[.val (.int p0), .val (.int p1), .val (.int p2), .val (.int p3), .val (.int p4), .val (.int p5), .val (.ref a506), .val (.int (Int32.ofNat o1)), .val (.int (Int32.ofNat n1)), .val (.int (Int32.ofNat o2)), .val (.int (Int32.ofNat n2)), .val (.int (Int32.ofNat (n1 + n2 + k))), .val (.ref ta), .unset] [(.ref a506), (.ref ta)])) (fun _ kk => XS.aload X569.here hx rfl (hb hby at_116) rfl rfl kk) ?_
  refine own_step (T' := T569) (g' := (mkF m 120 #[.val (.int p0), .val (.int p1), .val (.int p2), .val (.int p3), .val (.int p4), .val (.int p5), .val (.ref a506), .val (.int (Int32.ofNat o1)), .val (.int (Int32.ofNat n1)), .val (.int (Int32.ofNat o2)), .val (.int (Int32.ofNat n2)), .val (.int (Int32.ofNat (n1 + n2 + k))), .val (.ref ta), .unset] [(.int (Int32.ofNat o2)), (.ref a506), (.ref ta)])) (fun _ kk => XS.iload X569.here hx rfl (hb hby at_118) rfl kk) ?_
  refine own_step (T' := T569) (g' := (mkF m 122 #[.val (.int p0), .val (.int p1), .val (.int p2), .val (.int p3), .val (.int p4), .val (.int p5), .val (.ref a506), .val (.int (Int32.ofNat o1)), .val (.int (Int32.ofNat n1)), .val (.int (Int32.ofNat o2)), .val (.int (Int32.ofNat n2)), .val (.int (Int32.ofNat (n1 + n2 + k))), .val (.ref ta), .unset] [(.int (Int32.ofNat n2)), (.int (Int32.ofNat o2)), (.ref a506), (.ref ta)])) (fun _ kk => XS.iload X569.here hx rfl (hb hby at_120) rfl kk) ?_
  have eL1 : (([] : List Int32) ++ ([c0, c1, c2, c3].drop o1).take n1).length = n1 := by rw [List.nil_append, own_takeL (by show _ ≤ 4; omega)]
  obtain ⟨T576, L576, _, h576, X576, e576, ⟨rfl, Nw1, Kw1, SB2⟩, st576⟩ := own_callV X569 hx hZ hown (w46 hw) (w47 hw) (w49 hw) (w48 hw) (w50 hw) (w8 hw) (by decide) F572.1 (g := (mkF m 122 #[.val (.int p0), .val (.int p1), .val (.int p2), .val (.int p3), .val (.int p4), .val (.int p5), .val (.ref a506), .val (.int (Int32.ofNat o1)), .val (.int (Int32.ofNat n1)), .val (.int (Int32.ofNat o2)), .val (.int (Int32.ofNat n2)), .val (.int (Int32.ofNat (n1 + n2 + k))), .val (.ref ta), .unset] [(.int (Int32.ofNat n2)), (.int (Int32.ofNat o2)), (.ref a506), (.ref ta)])) rfl (by rw [hml]; rfl) (argsL := [(.ref a506), (.int (Int32.ofNat o2)), (.int (Int32.ofNat n2))]) (rest := []) (rm_wr l Z a0 hw ta sb b a506 kb cA507 [c0, c1, c2, c3] (([] : List Int32) ++ ([c0, c1, c2, c3].drop o1).take n1) o2 n2 (Int32.ofNat (n1 + n2 + k)) zc fi _ F575 F573 F574 F572.1 SB1 F571 hP4.B (by show 4 ≤ 4000; omega) F563 F564 nsb ne559 ne561 (by show _ ≤ 4; omega) (by rw [eL1]; omega) SC hzc IO rfi (by rw [eL1]; exact own_room (by omega) (by omega))) e569 pd___CII_V rfl rfl (W := 0) (by show 2 * 0 + _ ≤ _; first | exact Nat.le_of_eq rfl | simp [own_cref own_of_ref]) (hb hby at_122) (by decide) (by decide) (by decide) (by decide)
  have F577 := Fr.app F570 Nw1
  have F578 := F571.keep Kw1 (ninS ne559 (ninS ne561 nin0))
  have F579 := F572.keep Kw1
  have F580 := F573.keep Kw1 (ninS ne560 (ninS ne562 nin0))
  have F581 := F574.keep Kw1 (ninS ne560 (ninS ne562 nin0))
  have F582 := F575.keep Kw1 (allS F563 (allS F564 all0))
  refine own_step (T' := T576) (g' := (mkF m 125 #[.val (.int p0), .val (.int p1), .val (.int p2), .val (.int p3), .val (.int p4), .val (.int p5), .val (.ref a506), .val (.int (Int32.ofNat o1)), .val (.int (Int32.ofNat n1)), .val (.int (Int32.ofNat o2)), .val (.int (Int32.ofNat n2)), .val (.int (Int32.ofNat (n1 + n2 + k))), .val (.ref ta), .unset] [])) (fun _ kk => st576 _ kk) ?_
  refine own_step (T' := T576) (g' := (mkF m 127 #[.val (.int p0), .val (.int p1), .val (.int p2), .val (.int p3), .val (.int p4), .val (.int p5), .val (.ref a506), .val (.int (Int32.ofNat o1)), .val (.int (Int32.ofNat n1)), .val (.int (Int32.ofNat o2)), .val (.int (Int32.ofNat n2)), .val (.int (Int32.ofNat (n1 + n2 + k))), .val (.ref ta), .unset] [(.ref ta)])) (fun _ kk => XS.aload X576.here hx rfl (hb hby at_125) rfl rfl kk) ?_
  have SB3 : own_SB Z h576 sb b kb (own_two [c0, c1, c2, c3] o1 n1 o2 n2) := SB2
  have hL2 : (own_two [c0, c1, c2, c3] o1 n1 o2 n2).length = n1 + n2 := own_twoL (by show _ ≤ 4; omega) (by show _ ≤ 4; omega)
  have hP2 : own_P (own_two [c0, c1, c2, c3] o1 n1 o2 n2) := own_P.app (hP4.drop _ _) (hP4.drop _ _)
  obtain ⟨T583, L583, _, h583, X583, e583, ⟨oa, x1, rfl, Ns, Ks, Eo, Fo, So⟩, st583⟩ := own_callV X576 hx hZ hown (w97 hw) (w98 hw) (w100 hw) (w99 hw) (w101 hw) (w8 hw) (by decide) F579.1 (g := (mkF m 127 #[.val (.int p0), .val (.int p1), .val (.int p2), .val (.int p3), .val (.int p4), .val (.int p5), .val (.ref a506), .val (.int (Int32.ofNat o1)), .val (.int (Int32.ofNat n1)), .val (.int (Int32.ofNat o2)), .val (.int (Int32.ofNat n2)), .val (.int (Int32.ofNat (n1 + n2 + k))), .val (.ref ta), .unset] [(.ref ta)])) rfl (by rw [hml]; rfl) (argsL := []) (rest := []) (rm_se l Z a0 hw ta sb b em kb (own_two [c0, c1, c2, c3] o1 n1 o2 n2) (Int32.ofNat (n1 + n2 + k)) zc fm _ F582 F580 F581 SB3 (by omega) hP2 (by rw [own_ofn (by omega)]; omega) SC hzc SI rfm SE) e576 pd___Ljava_util_Optional_ rfl rfl (W := 0) (by show 2 * 0 + _ ≤ _; first | exact Nat.le_of_eq rfl | simp [own_cref own_of_ref]) (hb hby at_127) (by decide) (by decide) (by decide) (by decide)
  have F584 := Fr.app F577 Ns
  have F585 := F578.keep Ks nin0
  have F586 := F579.keep Ks
  have F587 := F580.keep Ks nin0
  have F588 := F581.keep Ks nin0
  have F589 := F582.keep Ks all0
  refine own_step (T' := T583) (g' := (mkF m 130 #[.val (.int p0), .val (.int p1), .val (.int p2), .val (.int p3), .val (.int p4), .val (.int p5), .val (.ref a506), .val (.int (Int32.ofNat o1)), .val (.int (Int32.ofNat n1)), .val (.int (Int32.ofNat o2)), .val (.int (Int32.ofNat n2)), .val (.int (Int32.ofNat (n1 + n2 + k))), .val (.ref ta), .unset] [(.ref oa)])) (fun _ kk => st583 _ kk) ?_
  refine own_step (T' := T583) (g' := (mkF m 131 #[.val (.int p0), .val (.int p1), .val (.int p2), .val (.int p3), .val (.int p4), .val (.int p5), .val (.ref a506), .val (.int (Int32.ofNat o1)), .val (.int (Int32.ofNat n1)), .val (.int (Int32.ofNat o2)), .val (.int (Int32.ofNat n2)), .val (.int (Int32.ofNat (n1 + n2 + k))), .val (.ref ta), .unset] [.null, (.ref oa)])) (fun _ kk => XS.aconstNull X583.here hx rfl (hb hby at_130) kk) ?_
  obtain ⟨T591, L591, _, h591, X591, e591, ⟨rfl, Nq590, eh590⟩, st591⟩ := own_callV X583 hx hZ hown (w190 hw) (w191 hw) (w193 hw) (w192 hw) (w194 hw) (w167 hw) (by decide) Eo (g := (mkF m 131 #[.val (.int p0), .val (.int p1), .val (.int p2), .val (.int p3), .val (.int p4), .val (.int p5), .val (.ref a506), .val (.int (Int32.ofNat o1)), .val (.int (Int32.ofNat n1)), .val (.int (Int32.ofNat o2)), .val (.int (Int32.ofNat n2)), .val (.int (Int32.ofNat (n1 + n2 + k))), .val (.ref ta), .unset] [.null, (.ref oa)])) rfl (by rw [hml]; rfl) (argsL := [.null]) (rest := []) (rm_or l Z a0 hw oa x1 _ F589 Fo) e583 pd__Ljava_lang_Object__Ljava_lang_Object_ rfl rfl (W := 0) (by show 2 * 0 + _ ≤ _; first | exact Nat.le_of_eq rfl | simp [own_cref own_of_ref]) (hb hby at_131) (by decide) (by decide) (by decide) (by decide)
  have F592 := Fr.app F584 Nq590
  have F593 := e591.trans eh590
  refine own_step (T' := T591) (g' := (mkF m 134 #[.val (.int p0), .val (.int p1), .val (.int p2), .val (.int p3), .val (.int p4), .val (.int p5), .val (.ref a506), .val (.int (Int32.ofNat o1)), .val (.int (Int32.ofNat n1)), .val (.int (Int32.ofNat o2)), .val (.int (Int32.ofNat n2)), .val (.int (Int32.ofNat (n1 + n2 + k))), .val (.ref ta), .unset] [(.ref x1)])) (fun _ kk => st591 _ kk) ?_
  obtain ⟨T594, X594, e594, st594⟩ := castY X591 hx hZ hown (w195 hw) F593 (Ins.self (own_Str.exa So)) (g := (mkF m 134 #[.val (.int p0), .val (.int p1), .val (.int p2), .val (.int p3), .val (.int p4), .val (.int p5), .val (.ref a506), .val (.int (Int32.ofNat o1)), .val (.int (Int32.ofNat n1)), .val (.int (Int32.ofNat o2)), .val (.int (Int32.ofNat n2)), .val (.int (Int32.ofNat (n1 + n2 + k))), .val (.ref ta), .unset] [(.ref x1)])) rfl rfl (hb hby at_134)
  refine own_step (T' := T594) (g' := (mkF m 137 #[.val (.int p0), .val (.int p1), .val (.int p2), .val (.int p3), .val (.int p4), .val (.int p5), .val (.ref a506), .val (.int (Int32.ofNat o1)), .val (.int (Int32.ofNat n1)), .val (.int (Int32.ofNat o2)), .val (.int (Int32.ofNat n2)), .val (.int (Int32.ofNat (n1 + n2 + k))), .val (.ref ta), .unset] [(.ref x1)])) (fun _ kk => st594 _ kk) ?_
  refine own_step (T' := T594) (g' := (mkF m 139 #[.val (.int p0), .val (.int p1), .val (.int p2), .val (.int p3), .val (.int p4), .val (.int p5), .val (.ref a506), .val (.int (Int32.ofNat o1)), .val (.int (Int32.ofNat n1)), .val (.int (Int32.ofNat o2)), .val (.int (Int32.ofNat n2)), .val (.int (Int32.ofNat (n1 + n2 + k))), .val (.ref ta), .val (.ref x1)] [])) (fun _ kk => XS.astore X594.here hx rfl (hb hby at_137) rfl rfl (l' := #[.val (.int p0), .val (.int p1), .val (.int p2), .val (.int p3), .val (.int p4), .val (.int p5), .val (.ref a506), .val (.int (Int32.ofNat o1)), .val (.int (Int32.ofNat n1)), .val (.int (Int32.ofNat o2)), .val (.int (Int32.ofNat n2)), .val (.int (Int32.ofNat (n1 + n2 + k))), .val (.ref ta), .val (.ref x1)]) rfl kk) ?_
  refine own_step (T' := T594) (g' := (mkF m 141 #[.val (.int p0), .val (.int p1), .val (.int p2), .val (.int p3), .val (.int p4), .val (.int p5), .val (.ref a506), .val (.int (Int32.ofNat o1)), .val (.int (Int32.ofNat n1)), .val (.int (Int32.ofNat o2)), .val (.int (Int32.ofNat n2)), .val (.int (Int32.ofNat (n1 + n2 + k))), .val (.ref ta), .val (.ref x1)] [(.ref x1)])) (fun _ kk => XS.aload X594.here hx rfl (hb hby at_139) rfl rfl kk) ?_
  refine own_step (T' := T594) (g' := (mkF m 146 #[.val (.int p0), .val (.int p1), .val (.int p2), .val (.int p3), .val (.int p4), .val (.int p5), .val (.ref a506), .val (.int (Int32.ofNat o1)), .val (.int (Int32.ofNat n1)), .val (.int (Int32.ofNat o2)), .val (.int (Int32.ofNat n2)), .val (.int (Int32.ofNat (n1 + n2 + k))), .val (.ref ta), .val (.ref x1)] [])) (fun _ kk => XS.ifnonnullYes X594.here hx rfl (pc0 := 141) (pc' := 146) rfl (hb hby at_141) rfl (by decide) (by decide) kk) ?_
  refine own_step (T' := T594) (g' := (mkF m 148 #[.val (.int p0), .val (.int p1), .val (.int p2), .val (.int p3), .val (.int p4), .val (.int p5), .val (.ref a506), .val (.int (Int32.ofNat o1)), .val (.int (Int32.ofNat n1)), .val (.int (Int32.ofNat o2)), .val (.int (Int32.ofNat n2)), .val (.int (Int32.ofNat (n1 + n2 + k))), .val (.ref ta), .val (.ref x1)] [(.ref x1)])) (fun _ kk => XS.aload X594.here hx rfl (hb hby at_146) rfl rfl kk) ?_
  obtain ⟨T596, L596, _, h596, X596, e596, ⟨rfl, Nq595, eh595⟩, st596⟩ := own_callV X594 hx hZ hown (w196 hw) (w155 hw) (w157 hw) (w156 hw) (w158 hw) (w36 hw) (by decide) (own_Str.exa So) (g := (mkF m 148 #[.val (.int p0), .val (.int p1), .val (.int p2), .val (.int p3), .val (.int p4), .val (.int p5), .val (.ref a506), .val (.int (Int32.ofNat o1)), .val (.int (Int32.ofNat n1)), .val (.int (Int32.ofNat o2)), .val (.int (Int32.ofNat n2)), .val (.int (Int32.ofNat (n1 + n2 + k))), .val (.ref ta), .val (.ref x1)] [(.ref x1)])) rfl (by rw [hml]; rfl) (argsL := []) (rest := []) (rm_ln l Z a0 hw x1 (own_two [c0, c1, c2, c3] o1 n1 o2 n2) zc _ F589 So SC hzc) e594 pd___I rfl rfl (W := 0) (by show 2 * 0 + _ ≤ _; first | exact Nat.le_of_eq rfl | simp [own_cref own_of_ref]) (hb hby at_148) (by decide) (by decide) (by decide) (by decide)
  have F597 := Fr.app F592 Nq595
  have F598 := e596.trans eh595
  refine own_step (T' := T596) (g' := (mkF m 151 #[.val (.int p0), .val (.int p1), .val (.int p2), .val (.int p3), .val (.int p4), .val (.int p5), .val (.ref a506), .val (.int (Int32.ofNat o1)), .val (.int (Int32.ofNat n1)), .val (.int (Int32.ofNat o2)), .val (.int (Int32.ofNat n2)), .val (.int (Int32.ofNat (n1 + n2 + k))), .val (.ref ta), .val (.ref x1)] [(.int (Int32.ofNat (own_two [c0, c1, c2, c3] o1 n1 o2 n2).length))])) (fun _ kk => st596 _ kk) ?_
  rw [hL2]
  refine own_step (T' := T596) (g' := (mkF m 153 #[.val (.int p0), .val (.int p1), .val (.int p2), .val (.int p3), .val (.int p4), .val (.int p5), .val (.ref a506), .val (.int (Int32.ofNat o1)), .val (.int (Int32.ofNat n1)), .val (.int (Int32.ofNat o2)), .val (.int (Int32.ofNat n2)), .val (.int (Int32.ofNat (n1 + n2 + k))), .val (.ref ta), .val (.ref x1)] [(.int (Int32.ofNat n1)), (.int (Int32.ofNat (n1 + n2)))])) (fun _ kk => XS.iload X596.here hx rfl (hb hby at_151) rfl kk) ?_
  refine own_step (T' := T596) (g' := (mkF m 155 #[.val (.int p0), .val (.int p1), .val (.int p2), .val (.int p3), .val (.int p4), .val (.int p5), .val (.ref a506), .val (.int (Int32.ofNat o1)), .val (.int (Int32.ofNat n1)), .val (.int (Int32.ofNat o2)), .val (.int (Int32.ofNat n2)), .val (.int (Int32.ofNat (n1 + n2 + k))), .val (.ref ta), .val (.ref x1)] [(.int (Int32.ofNat n2)), (.int (Int32.ofNat n1)), (.int (Int32.ofNat (n1 + n2)))])) (fun _ kk => XS.iload X596.here hx rfl (hb hby at_153) rfl kk) ?_
  refine own_step (T' := T596) (g' := (mkF m 156 #[.val (.int p0), .val (.int p1), .val (.int p2), .val (.int p3), .val (.int p4), .val (.int p5), .val (.ref a506), .val (.int (Int32.ofNat o1)), .val (.int (Int32.ofNat n1)), .val (.int (Int32.ofNat o2)), .val (.int (Int32.ofNat n2)), .val (.int (Int32.ofNat (n1 + n2 + k))), .val (.ref ta), .val (.ref x1)] [(.int ((Int32.ofNat n1) + (Int32.ofNat n2))), (.int (Int32.ofNat (n1 + n2)))])) (fun _ kk => XS.iadd X596.here hx rfl (hb hby at_155) rfl kk) ?_
  rw [own_addn n1 n2]
  refine own_step (T' := T596) (g' := (mkF m 161 #[.val (.int p0), .val (.int p1), .val (.int p2), .val (.int p3), .val (.int p4), .val (.int p5), .val (.ref a506), .val (.int (Int32.ofNat o1)), .val (.int (Int32.ofNat n1)), .val (.int (Int32.ofNat o2)), .val (.int (Int32.ofNat n2)), .val (.int (Int32.ofNat (n1 + n2 + k))), .val (.ref ta), .val (.ref x1)] [])) (fun _ kk => XS.icmpYes X596.here hx rfl (pc0 := 156) (pc' := 161) rfl (hb hby at_156) rfl (teq rfl).1 (by decide) (by decide) kk) ?_
  refine own_step (T' := T596) (g' := (mkF m 163 #[.val (.int p0), .val (.int p1), .val (.int p2), .val (.int p3), .val (.int p4), .val (.int p5), .val (.ref a506), .val (.int (Int32.ofNat o1)), .val (.int (Int32.ofNat n1)), .val (.int (Int32.ofNat o2)), .val (.int (Int32.ofNat n2)), .val (.int (Int32.ofNat (n1 + n2 + k))), .val (.ref ta), .val (.ref x1)] [(.ref x1)])) (fun _ kk => XS.aload X596.here hx rfl (hb hby at_161) rfl rfl kk) ?_
  refine own_step (T' := T596) (g' := (mkF m 165 #[.val (.int p0), .val (.int p1), .val (.int p2), .val (.int p3), .val (.int p4), .val (.int p5), .val (.ref a506), .val (.int (Int32.ofNat o1)), .val (.int (Int32.ofNat n1)), .val (.int (Int32.ofNat o2)), .val (.int (Int32.ofNat n2)), .val (.int (Int32.ofNat (n1 + n2 + k))), .val (.ref ta), .val (.ref x1)] [(.ref a506), (.ref x1)])) (fun _ kk => XS.aload X596.here hx rfl (hb hby at_163) rfl rfl kk) ?_
  refine own_step (T' := T596) (g' := (mkF m 167 #[.val (.int p0), .val (.int p1), .val (.int p2), .val (.int p3), .val (.int p4), .val (.int p5), .val (.ref a506), .val (.int (Int32.ofNat o1)), .val (.int (Int32.ofNat n1)), .val (.int (Int32.ofNat o2)), .val (.int (Int32.ofNat n2)), .val (.int (Int32.ofNat (n1 + n2 + k))), .val (.ref ta), .val (.ref x1)] [(.int (Int32.ofNat o1)), (.ref a506), (.ref x1)])) (fun _ kk => XS.iload X596.here hx rfl (hb hby at_165) rfl kk) ?_
  refine own_step (T' := T596) (g' := (mkF m 169 #[.val (.int p0), .val (.int p1), .val (.int p2), .val (.int p3), .val (.int p4), .val (.int p5), .val (.ref a506), .val (.int (Int32.ofNat o1)), .val (.int (Int32.ofNat n1)), .val (.int (Int32.ofNat o2)), .val (.int (Int32.ofNat n2)), .val (.int (Int32.ofNat (n1 + n2 + k))), .val (.ref ta), .val (.ref x1)] [(.int (Int32.ofNat n1)), (.int (Int32.ofNat o1)), (.ref a506), (.ref x1)])) (fun _ kk => XS.iload X596.here hx rfl (hb hby at_167) rfl kk) ?_
  refine own_step (T' := T596) (g' := (mkF m 171 #[.val (.int p0), .val (.int p1), .val (.int p2), .val (.int p3), .val (.int p4), .val (.int p5), .val (.ref a506), .val (.int (Int32.ofNat o1)), .val (.int (Int32.ofNat n1)), .val (.int (Int32.ofNat o2)), .val (.int (Int32.ofNat n2)), .val (.int (Int32.ofNat (n1 + n2 + k))), .val (.ref ta), .val (.ref x1)] [(.int (Int32.ofNat o2)), (.int (Int32.ofNat n1)), (.int (Int32.ofNat o1)), (.ref a506), (.ref x1)])) (fun _ kk => XS.iload X596.here hx rfl (hb hby at_169) rfl kk) ?_
  refine own_step (T' := T596) (g' := (mkF m 172 #[.val (.int p0), .val (.int p1), .val (.int p2), .val (.int p3), .val (.int p4), .val (.int p5), .val (.ref a506), .val (.int (Int32.ofNat o1)), .val (.int (Int32.ofNat n1)), .val (.int (Int32.ofNat o2)), .val (.int (Int32.ofNat n2)), .val (.int (Int32.ofNat (n1 + n2 + k))), .val (.ref ta), .val (.ref x1)] [(.int (0 : Int32)), (.int (Int32.ofNat o2)), (.int (Int32.ofNat n1)), (.int (Int32.ofNat o1)), (.ref a506), (.ref x1)])) (fun _ kk => XS.iconst X596.here hx rfl (hb hby at_171) kk) ?_
  obtain ⟨T600, L600, _, h600, X600, e600, ⟨rfl, Nq599, eh599⟩, st600⟩ := own_callS X596 hx hZ hown (w197 hw) (w198 hw) (w199 hw) (w3 hw) (by decide) (g := (mkF m 172 #[.val (.int p0), .val (.int p1), .val (.int p2), .val (.int p3), .val (.int p4), .val (.int p5), .val (.ref a506), .val (.int (Int32.ofNat o1)), .val (.int (Int32.ofNat n1)), .val (.int (Int32.ofNat o2)), .val (.int (Int32.ofNat n2)), .val (.int (Int32.ofNat (n1 + n2 + k))), .val (.ref ta), .val (.ref x1)] [(.int (0 : Int32)), (.int (Int32.ofNat o2)), (.int (Int32.ofNat n1)), (.int (Int32.ofNat o1)), (.ref a506), (.ref x1)])) rfl (by rw [hml]; rfl) (argsL := [(.ref x1), (.ref a506), (.int (Int32.ofNat o1)), (.int (Int32.ofNat n1)), (.int (Int32.ofNat o2)), (.int (0 : Int32))]) (rest := []) (rm_ok l Z a0 hw x1 a506 cA507 [c0, c1, c2, c3] o1 n1 o2 n2 0 zc fm _ F589 So hP2 F585 (by show 4 ≤ 1000; omega) (by show _ ≤ 4; omega) (by show _ ≤ 4; omega) (by decide) SC hzc SI rfm) F598 pd__Ljava_lang_String__CIIII_Z rfl rfl (W := 0) (by show 2 * 0 + _ ≤ _; first | exact Nat.le_of_eq rfl | simp [own_cref own_of_ref]) (hb hby at_172) (by decide) (by decide) (by decide) (by decide)
  have F601 := Fr.app F597 Nq599
  have F602 := e600.trans eh599
  refine own_step (T' := T600) (g' := (mkF m 175 #[.val (.int p0), .val (.int p1), .val (.int p2), .val (.int p3), .val (.int p4), .val (.int p5), .val (.ref a506), .val (.int (Int32.ofNat o1)), .val (.int (Int32.ofNat n1)), .val (.int (Int32.ofNat o2)), .val (.int (Int32.ofNat n2)), .val (.int (Int32.ofNat (n1 + n2 + k))), .val (.ref ta), .val (.ref x1)] [(.int (1 : Int32))])) (fun _ kk => st600 _ kk) ?_
  refine own_step (T' := T600) (g' := (mkF m 178 #[.val (.int p0), .val (.int p1), .val (.int p2), .val (.int p3), .val (.int p4), .val (.int p5), .val (.ref a506), .val (.int (Int32.ofNat o1)), .val (.int (Int32.ofNat n1)), .val (.int (Int32.ofNat o2)), .val (.int (Int32.ofNat n2)), .val (.int (Int32.ofNat (n1 + n2 + k))), .val (.ref ta), .val (.ref x1)] [])) (fun _ kk => XS.ifNo X600.here hx rfl (hb hby at_175) rfl ((if0 _ _).trans (feq (by decide)).1) kk) ?_
  refine own_step (T' := T600) (g' := (mkF m 180 #[.val (.int p0), .val (.int p1), .val (.int p2), .val (.int p3), .val (.int p4), .val (.int p5), .val (.ref a506), .val (.int (Int32.ofNat o1)), .val (.int (Int32.ofNat n1)), .val (.int (Int32.ofNat o2)), .val (.int (Int32.ofNat n2)), .val (.int (Int32.ofNat (n1 + n2 + k))), .val (.ref ta), .val (.ref x1)] [(.ref x1)])) (fun _ kk => XS.aload X600.here hx rfl (hb hby at_178) rfl rfl kk) ?_
  refine own_step (T' := T600) (g' := (mkF m 182 #[.val (.int p0), .val (.int p1), .val (.int p2), .val (.int p3), .val (.int p4), .val (.int p5), .val (.ref a506), .val (.int (Int32.ofNat o1)), .val (.int (Int32.ofNat n1)), .val (.int (Int32.ofNat o2)), .val (.int (Int32.ofNat n2)), .val (.int (Int32.ofNat (n1 + n2 + k))), .val (.ref ta), .val (.ref x1)] [(.ref a506), (.ref x1)])) (fun _ kk => XS.aload X600.here hx rfl (hb hby at_180) rfl rfl kk) ?_
  refine own_step (T' := T600) (g' := (mkF m 184 #[.val (.int p0), .val (.int p1), .val (.int p2), .val (.int p3), .val (.int p4), .val (.int p5), .val (.ref a506), .val (.int (Int32.ofNat o1)), .val (.int (Int32.ofNat n1)), .val (.int (Int32.ofNat o2)), .val (.int (Int32.ofNat n2)), .val (.int (Int32.ofNat (n1 + n2 + k))), .val (.ref ta), .val (.ref x1)] [(.int (Int32.ofNat o1)), (.ref a506), (.ref x1)])) (fun _ kk => XS.iload X600.here hx rfl (hb hby at_182) rfl kk) ?_
  refine own_step (T' := T600) (g' := (mkF m 186 #[.val (.int p0), .val (.int p1), .val (.int p2), .val (.int p3), .val (.int p4), .val (.int p5), .val (.ref a506), .val (.int (Int32.ofNat o1)), .val (.int (Int32.ofNat n1)), .val (.int (Int32.ofNat o2)), .val (.int (Int32.ofNat n2)), .val (.int (Int32.ofNat (n1 + n2 + k))), .val (.ref ta), .val (.ref x1)] [(.int (Int32.ofNat n1)), (.int (Int32.ofNat o1)), (.ref a506), (.ref x1)])) (fun _ kk => XS.iload X600.here hx rfl (hb hby at_184) rfl kk) ?_
  refine own_step (T' := T600) (g' := (mkF m 188 #[.val (.int p0), .val (.int p1), .val (.int p2), .val (.int p3), .val (.int p4), .val (.int p5), .val (.ref a506), .val (.int (Int32.ofNat o1)), .val (.int (Int32.ofNat n1)), .val (.int (Int32.ofNat o2)), .val (.int (Int32.ofNat n2)), .val (.int (Int32.ofNat (n1 + n2 + k))), .val (.ref ta), .val (.ref x1)] [(.int (Int32.ofNat o2)), (.int (Int32.ofNat n1)), (.int (Int32.ofNat o1)), (.ref a506), (.ref x1)])) (fun _ kk => XS.iload X600.here hx rfl (hb hby at_186) rfl kk) ?_
  refine own_step (T' := T600) (g' := (mkF m 189 #[.val (.int p0), .val (.int p1), .val (.int p2), .val (.int p3), .val (.int p4), .val (.int p5), .val (.ref a506), .val (.int (Int32.ofNat o1)), .val (.int (Int32.ofNat n1)), .val (.int (Int32.ofNat o2)), .val (.int (Int32.ofNat n2)), .val (.int (Int32.ofNat (n1 + n2 + k))), .val (.ref ta), .val (.ref x1)] [(.int (1 : Int32)), (.int (Int32.ofNat o2)), (.int (Int32.ofNat n1)), (.int (Int32.ofNat o1)), (.ref a506), (.ref x1)])) (fun _ kk => XS.iconst X600.here hx rfl (hb hby at_188) kk) ?_
  obtain ⟨T604, L604, _, h604, X604, e604, ⟨rfl, Nq603, eh603⟩, st604⟩ := own_callS X600 hx hZ hown (w197 hw) (w198 hw) (w199 hw) (w3 hw) (by decide) (g := (mkF m 189 #[.val (.int p0), .val (.int p1), .val (.int p2), .val (.int p3), .val (.int p4), .val (.int p5), .val (.ref a506), .val (.int (Int32.ofNat o1)), .val (.int (Int32.ofNat n1)), .val (.int (Int32.ofNat o2)), .val (.int (Int32.ofNat n2)), .val (.int (Int32.ofNat (n1 + n2 + k))), .val (.ref ta), .val (.ref x1)] [(.int (1 : Int32)), (.int (Int32.ofNat o2)), (.int (Int32.ofNat n1)), (.int (Int32.ofNat o1)), (.ref a506), (.ref x1)])) rfl (by rw [hml]; rfl) (argsL := [(.ref x1), (.ref a506), (.int (Int32.ofNat o1)), (.int (Int32.ofNat n1)), (.int (Int32.ofNat o2)), (.int (1 : Int32))]) (rest := []) (rm_ok l Z a0 hw x1 a506 cA507 [c0, c1, c2, c3] o1 n1 o2 n2 1 zc fm _ F589 So hP2 F585 (by show 4 ≤ 1000; omega) (by show _ ≤ 4; omega) (by show _ ≤ 4; omega) (by decide) SC hzc SI rfm) F602 pd__Ljava_lang_String__CIIII_Z rfl rfl (W := 0) (by show 2 * 0 + _ ≤ _; first | exact Nat.le_of_eq rfl | simp [own_cref own_of_ref]) (hb hby at_189) (by decide) (by decide) (by decide) (by decide)
  have F605 := Fr.app F601 Nq603
  have F606 := e604.trans eh603
  refine own_step (T' := T604) (g' := (mkF m 192 #[.val (.int p0), .val (.int p1), .val (.int p2), .val (.int p3), .val (.int p4), .val (.int p5), .val (.ref a506), .val (.int (Int32.ofNat o1)), .val (.int (Int32.ofNat n1)), .val (.int (Int32.ofNat o2)), .val (.int (Int32.ofNat n2)), .val (.int (Int32.ofNat (n1 + n2 + k))), .val (.ref ta), .val (.ref x1)] [(.int (1 : Int32))])) (fun _ kk => st604 _ kk) ?_
  refine own_step (T' := T604) (g' := (mkF m 195 #[.val (.int p0), .val (.int p1), .val (.int p2), .val (.int p3), .val (.int p4), .val (.int p5), .val (.ref a506), .val (.int (Int32.ofNat o1)), .val (.int (Int32.ofNat n1)), .val (.int (Int32.ofNat o2)), .val (.int (Int32.ofNat n2)), .val (.int (Int32.ofNat (n1 + n2 + k))), .val (.ref ta), .val (.ref x1)] [])) (fun _ kk => XS.ifNo X604.here hx rfl (hb hby at_192) rfl ((if0 _ _).trans (feq (by decide)).1) kk) ?_
  refine own_step (T' := T604) (g' := (mkF m 197 #[.val (.int p0), .val (.int p1), .val (.int p2), .val (.int p3), .val (.int p4), .val (.int p5), .val (.ref a506), .val (.int (Int32.ofNat o1)), .val (.int (Int32.ofNat n1)), .val (.int (Int32.ofNat o2)), .val (.int (Int32.ofNat n2)), .val (.int (Int32.ofNat (n1 + n2 + k))), .val (.ref ta), .val (.ref x1)] [(.ref x1)])) (fun _ kk => XS.aload X604.here hx rfl (hb hby at_195) rfl rfl kk) ?_
  refine own_step (T' := T604) (g' := (mkF m 199 #[.val (.int p0), .val (.int p1), .val (.int p2), .val (.int p3), .val (.int p4), .val (.int p5), .val (.ref a506), .val (.int (Int32.ofNat o1)), .val (.int (Int32.ofNat n1)), .val (.int (Int32.ofNat o2)), .val (.int (Int32.ofNat n2)), .val (.int (Int32.ofNat (n1 + n2 + k))), .val (.ref ta), .val (.ref x1)] [(.ref a506), (.ref x1)])) (fun _ kk => XS.aload X604.here hx rfl (hb hby at_197) rfl rfl kk) ?_
  refine own_step (T' := T604) (g' := (mkF m 201 #[.val (.int p0), .val (.int p1), .val (.int p2), .val (.int p3), .val (.int p4), .val (.int p5), .val (.ref a506), .val (.int (Int32.ofNat o1)), .val (.int (Int32.ofNat n1)), .val (.int (Int32.ofNat o2)), .val (.int (Int32.ofNat n2)), .val (.int (Int32.ofNat (n1 + n2 + k))), .val (.ref ta), .val (.ref x1)] [(.int (Int32.ofNat o1)), (.ref a506), (.ref x1)])) (fun _ kk => XS.iload X604.here hx rfl (hb hby at_199) rfl kk) ?_
  refine own_step (T' := T604) (g' := (mkF m 203 #[.val (.int p0), .val (.int p1), .val (.int p2), .val (.int p3), .val (.int p4), .val (.int p5), .val (.ref a506), .val (.int (Int32.ofNat o1)), .val (.int (Int32.ofNat n1)), .val (.int (Int32.ofNat o2)), .val (.int (Int32.ofNat n2)), .val (.int (Int32.ofNat (n1 + n2 + k))), .val (.ref ta), .val (.ref x1)] [(.int (Int32.ofNat n1)), (.int (Int32.ofNat o1)), (.ref a506), (.ref x1)])) (fun _ kk => XS.iload X604.here hx rfl (hb hby at_201) rfl kk) ?_
  refine own_step (T' := T604) (g' := (mkF m 205 #[.val (.int p0), .val (.int p1), .val (.int p2), .val (.int p3), .val (.int p4), .val (.int p5), .val (.ref a506), .val (.int (Int32.ofNat o1)), .val (.int (Int32.ofNat n1)), .val (.int (Int32.ofNat o2)), .val (.int (Int32.ofNat n2)), .val (.int (Int32.ofNat (n1 + n2 + k))), .val (.ref ta), .val (.ref x1)] [(.int (Int32.ofNat o2)), (.int (Int32.ofNat n1)), (.int (Int32.ofNat o1)), (.ref a506), (.ref x1)])) (fun _ kk => XS.iload X604.here hx rfl (hb hby at_203) rfl kk) ?_
  refine own_step (T' := T604) (g' := (mkF m 206 #[.val (.int p0), .val (.int p1), .val (.int p2), .val (.int p3), .val (.int p4), .val (.int p5), .val (.ref a506), .val (.int (Int32.ofNat o1)), .val (.int (Int32.ofNat n1)), .val (.int (Int32.ofNat o2)), .val (.int (Int32.ofNat n2)), .val (.int (Int32.ofNat (n1 + n2 + k))), .val (.ref ta), .val (.ref x1)] [(.int (2 : Int32)), (.int (Int32.ofNat o2)), (.int (Int32.ofNat n1)), (.int (Int32.ofNat o1)), (.ref a506), (.ref x1)])) (fun _ kk => XS.iconst X604.here hx rfl (hb hby at_205) kk) ?_
  obtain ⟨T608, L608, _, h608, X608, e608, ⟨rfl, Nq607, eh607⟩, st608⟩ := own_callS X604 hx hZ hown (w197 hw) (w198 hw) (w199 hw) (w3 hw) (by decide) (g := (mkF m 206 #[.val (.int p0), .val (.int p1), .val (.int p2), .val (.int p3), .val (.int p4), .val (.int p5), .val (.ref a506), .val (.int (Int32.ofNat o1)), .val (.int (Int32.ofNat n1)), .val (.int (Int32.ofNat o2)), .val (.int (Int32.ofNat n2)), .val (.int (Int32.ofNat (n1 + n2 + k))), .val (.ref ta), .val (.ref x1)] [(.int (2 : Int32)), (.int (Int32.ofNat o2)), (.int (Int32.ofNat n1)), (.int (Int32.ofNat o1)), (.ref a506), (.ref x1)])) rfl (by rw [hml]; rfl) (argsL := [(.ref x1), (.ref a506), (.int (Int32.ofNat o1)), (.int (Int32.ofNat n1)), (.int (Int32.ofNat o2)), (.int (2 : Int32))]) (rest := []) (rm_ok l Z a0 hw x1 a506 cA507 [c0, c1, c2, c3] o1 n1 o2 n2 2 zc fm _ F589 So hP2 F585 (by show 4 ≤ 1000; omega) (by show _ ≤ 4; omega) (by show _ ≤ 4; omega) (by decide) SC hzc SI rfm) F606 pd__Ljava_lang_String__CIIII_Z rfl rfl (W := 0) (by show 2 * 0 + _ ≤ _; first | exact Nat.le_of_eq rfl | simp [own_cref own_of_ref]) (hb hby at_206) (by decide) (by decide) (by decide) (by decide)
  have F609 := Fr.app F605 Nq607
  have F610 := e608.trans eh607
  refine own_step (T' := T608) (g' := (mkF m 209 #[.val (.int p0), .val (.int p1), .val (.int p2), .val (.int p3), .val (.int p4), .val (.int p5), .val (.ref a506), .val (.int (Int32.ofNat o1)), .val (.int (Int32.ofNat n1)), .val (.int (Int32.ofNat o2)), .val (.int (Int32.ofNat n2)), .val (.int (Int32.ofNat (n1 + n2 + k))), .val (.ref ta), .val (.ref x1)] [(.int (1 : Int32))])) (fun _ kk => st608 _ kk) ?_
  refine own_step (T' := T608) (g' := (mkF m 212 #[.val (.int p0), .val (.int p1), .val (.int p2), .val (.int p3), .val (.int p4), .val (.int p5), .val (.ref a506), .val (.int (Int32.ofNat o1)), .val (.int (Int32.ofNat n1)), .val (.int (Int32.ofNat o2)), .val (.int (Int32.ofNat n2)), .val (.int (Int32.ofNat (n1 + n2 + k))), .val (.ref ta), .val (.ref x1)] [])) (fun _ kk => XS.ifNo X608.here hx rfl (hb hby at_209) rfl ((if0 _ _).trans (feq (by decide)).1) kk) ?_
  refine own_step (T' := T608) (g' := (mkF m 214 #[.val (.int p0), .val (.int p1), .val (.int p2), .val (.int p3), .val (.int p4), .val (.int p5), .val (.ref a506), .val (.int (Int32.ofNat o1)), .val (.int (Int32.ofNat n1)), .val (.int (Int32.ofNat o2)), .val (.int (Int32.ofNat n2)), .val (.int (Int32.ofNat (n1 + n2 + k))), .val (.ref ta), .val (.ref x1)] [(.ref x1)])) (fun _ kk => XS.aload X608.here hx rfl (hb hby at_212) rfl rfl kk) ?_
  refine own_step (T' := T608) (g' := (mkF m 216 #[.val (.int p0), .val (.int p1), .val (.int p2), .val (.int p3), .val (.int p4), .val (.int p5), .val (.ref a506), .val (.int (Int32.ofNat o1)), .val (.int (Int32.ofNat n1)), .val (.int (Int32.ofNat o2)), .val (.int (Int32.ofNat n2)), .val (.int (Int32.ofNat (n1 + n2 + k))), .val (.ref ta), .val (.ref x1)] [(.ref a506), (.ref x1)])) (fun _ kk => XS.aload X608.here hx rfl (hb hby at_214) rfl rfl kk) ?_
  refine own_step (T' := T608) (g' := (mkF m 218 #[.val (.int p0), .val (.int p1), .val (.int p2), .val (.int p3), .val (.int p4), .val (.int p5), .val (.ref a506), .val (.int (Int32.ofNat o1)), .val (.int (Int32.ofNat n1)), .val (.int (Int32.ofNat o2)), .val (.int (Int32.ofNat n2)), .val (.int (Int32.ofNat (n1 + n2 + k))), .val (.ref ta), .val (.ref x1)] [(.int (Int32.ofNat o1)), (.ref a506), (.ref x1)])) (fun _ kk => XS.iload X608.here hx rfl (hb hby at_216) rfl kk) ?_
  refine own_step (T' := T608) (g' := (mkF m 220 #[.val (.int p0), .val (.int p1), .val (.int p2), .val (.int p3), .val (.int p4), .val (.int p5), .val (.ref a506), .val (.int (Int32.ofNat o1)), .val (.int (Int32.ofNat n1)), .val (.int (Int32.ofNat o2)), .val (.int (Int32.ofNat n2)), .val (.int (Int32.ofNat (n1 + n2 + k))), .val (.ref ta), .val (.ref x1)] [(.int (Int32.ofNat n1)), (.int (Int32.ofNat o1)), (.ref a506), (.ref x1)])) (fun _ kk => XS.iload X608.here hx rfl (hb hby at_218) rfl kk) ?_
  refine own_step (T' := T608) (g' := (mkF m 222 #[.val (.int p0), .val (.int p1), .val (.int p2), .val (.int p3), .val (.int p4), .val (.int p5), .val (.ref a506), .val (.int (Int32.ofNat o1)), .val (.int (Int32.ofNat n1)), .val (.int (Int32.ofNat o2)), .val (.int (Int32.ofNat n2)), .val (.int (Int32.ofNat (n1 + n2 + k))), .val (.ref ta), .val (.ref x1)] [(.int (Int32.ofNat o2)), (.int (Int32.ofNat n1)), (.int (Int32.ofNat o1)), (.ref a506), (.ref x1)])) (fun _ kk => XS.iload X608.here hx rfl (hb hby at_220) rfl kk) ?_
  refine own_step (T' := T608) (g' := (mkF m 223 #[.val (.int p0), .val (.int p1), .val (.int p2), .val (.int p3), .val (.int p4), .val (.int p5), .val (.ref a506), .val (.int (Int32.ofNat o1)), .val (.int (Int32.ofNat n1)), .val (.int (Int32.ofNat o2)), .val (.int (Int32.ofNat n2)), .val (.int (Int32.ofNat (n1 + n2 + k))), .val (.ref ta), .val (.ref x1)] [(.int (3 : Int32)), (.int (Int32.ofNat o2)), (.int (Int32.ofNat n1)), (.int (Int32.ofNat o1)), (.ref a506), (.ref x1)])) (fun _ kk => XS.iconst X608.here hx rfl (hb hby at_222) kk) ?_
  obtain ⟨T612, L612, _, h612, X612, e612, ⟨rfl, Nq611, eh611⟩, st612⟩ := own_callS X608 hx hZ hown (w197 hw) (w198 hw) (w199 hw) (w3 hw) (by decide) (g := (mkF m 223 #[.val (.int p0), .val (.int p1), .val (.int p2), .val (.int p3), .val (.int p4), .val (.int p5), .val (.ref a506), .val (.int (Int32.ofNat o1)), .val (.int (Int32.ofNat n1)), .val (.int (Int32.ofNat o2)), .val (.int (Int32.ofNat n2)), .val (.int (Int32.ofNat (n1 + n2 + k))), .val (.ref ta), .val (.ref x1)] [(.int (3 : Int32)), (.int (Int32.ofNat o2)), (.int (Int32.ofNat n1)), (.int (Int32.ofNat o1)), (.ref a506), (.ref x1)])) rfl (by rw [hml]; rfl) (argsL := [(.ref x1), (.ref a506), (.int (Int32.ofNat o1)), (.int (Int32.ofNat n1)), (.int (Int32.ofNat o2)), (.int (3 : Int32))]) (rest := []) (rm_ok l Z a0 hw x1 a506 cA507 [c0, c1, c2, c3] o1 n1 o2 n2 3 zc fm _ F589 So hP2 F585 (by show 4 ≤ 1000; omega) (by show _ ≤ 4; omega) (by show _ ≤ 4; omega) (by decide) SC hzc SI rfm) F610 pd__Ljava_lang_String__CIIII_Z rfl rfl (W := 0) (by show 2 * 0 + _ ≤ _; first | exact Nat.le_of_eq rfl | simp [own_cref own_of_ref]) (hb hby at_223) (by decide) (by decide) (by decide) (by decide)
  have F613 := Fr.app F609 Nq611
  have F614 := e612.trans eh611
  refine own_step (T' := T612) (g' := (mkF m 226 #[.val (.int p0), .val (.int p1), .val (.int p2), .val (.int p3), .val (.int p4), .val (.int p5), .val (.ref a506), .val (.int (Int32.ofNat o1)), .val (.int (Int32.ofNat n1)), .val (.int (Int32.ofNat o2)), .val (.int (Int32.ofNat n2)), .val (.int (Int32.ofNat (n1 + n2 + k))), .val (.ref ta), .val (.ref x1)] [(.int (1 : Int32))])) (fun _ kk => st612 _ kk) ?_
  refine own_step (T' := T612) (g' := (mkF m 229 #[.val (.int p0), .val (.int p1), .val (.int p2), .val (.int p3), .val (.int p4), .val (.int p5), .val (.ref a506), .val (.int (Int32.ofNat o1)), .val (.int (Int32.ofNat n1)), .val (.int (Int32.ofNat o2)), .val (.int (Int32.ofNat n2)), .val (.int (Int32.ofNat (n1 + n2 + k))), .val (.ref ta), .val (.ref x1)] [])) (fun _ kk => XS.ifNo X612.here hx rfl (hb hby at_226) rfl ((if0 _ _).trans (feq (by decide)).1) kk) ?_
  refine own_step (T' := T612) (g' := (mkF m 231 #[.val (.int p0), .val (.int p1), .val (.int p2), .val (.int p3), .val (.int p4), .val (.int p5), .val (.ref a506), .val (.int (Int32.ofNat o1)), .val (.int (Int32.ofNat n1)), .val (.int (Int32.ofNat o2)), .val (.int (Int32.ofNat n2)), .val (.int (Int32.ofNat (n1 + n2 + k))), .val (.ref ta), .val (.ref x1)] [(.ref x1)])) (fun _ kk => XS.aload X612.here hx rfl (hb hby at_229) rfl rfl kk) ?_
  refine own_step (T' := T612) (g' := (mkF m 233 #[.val (.int p0), .val (.int p1), .val (.int p2), .val (.int p3), .val (.int p4), .val (.int p5), .val (.ref a506), .val (.int (Int32.ofNat o1)), .val (.int (Int32.ofNat n1)), .val (.int (Int32.ofNat o2)), .val (.int (Int32.ofNat n2)), .val (.int (Int32.ofNat (n1 + n2 + k))), .val (.ref ta), .val (.ref x1)] [(.ref a506), (.ref x1)])) (fun _ kk => XS.aload X612.here hx rfl (hb hby at_231) rfl rfl kk) ?_
  refine own_step (T' := T612) (g' := (mkF m 235 #[.val (.int p0), .val (.int p1), .val (.int p2), .val (.int p3), .val (.int p4), .val (.int p5), .val (.ref a506), .val (.int (Int32.ofNat o1)), .val (.int (Int32.ofNat n1)), .val (.int (Int32.ofNat o2)), .val (.int (Int32.ofNat n2)), .val (.int (Int32.ofNat (n1 + n2 + k))), .val (.ref ta), .val (.ref x1)] [(.int (Int32.ofNat o1)), (.ref a506), (.ref x1)])) (fun _ kk => XS.iload X612.here hx rfl (hb hby at_233) rfl kk) ?_
  refine own_step (T' := T612) (g' := (mkF m 237 #[.val (.int p0), .val (.int p1), .val (.int p2), .val (.int p3), .val (.int p4), .val (.int p5), .val (.ref a506), .val (.int (Int32.ofNat o1)), .val (.int (Int32.ofNat n1)), .val (.int (Int32.ofNat o2)), .val (.int (Int32.ofNat n2)), .val (.int (Int32.ofNat (n1 + n2 + k))), .val (.ref ta), .val (.ref x1)] [(.int (Int32.ofNat n1)), (.int (Int32.ofNat o1)), (.ref a506), (.ref x1)])) (fun _ kk => XS.iload X612.here hx rfl (hb hby at_235) rfl kk) ?_
  refine own_step (T' := T612) (g' := (mkF m 239 #[.val (.int p0), .val (.int p1), .val (.int p2), .val (.int p3), .val (.int p4), .val (.int p5), .val (.ref a506), .val (.int (Int32.ofNat o1)), .val (.int (Int32.ofNat n1)), .val (.int (Int32.ofNat o2)), .val (.int (Int32.ofNat n2)), .val (.int (Int32.ofNat (n1 + n2 + k))), .val (.ref ta), .val (.ref x1)] [(.int (Int32.ofNat o2)), (.int (Int32.ofNat n1)), (.int (Int32.ofNat o1)), (.ref a506), (.ref x1)])) (fun _ kk => XS.iload X612.here hx rfl (hb hby at_237) rfl kk) ?_
  refine own_step (T' := T612) (g' := (mkF m 240 #[.val (.int p0), .val (.int p1), .val (.int p2), .val (.int p3), .val (.int p4), .val (.int p5), .val (.ref a506), .val (.int (Int32.ofNat o1)), .val (.int (Int32.ofNat n1)), .val (.int (Int32.ofNat o2)), .val (.int (Int32.ofNat n2)), .val (.int (Int32.ofNat (n1 + n2 + k))), .val (.ref ta), .val (.ref x1)] [(.int (4 : Int32)), (.int (Int32.ofNat o2)), (.int (Int32.ofNat n1)), (.int (Int32.ofNat o1)), (.ref a506), (.ref x1)])) (fun _ kk => XS.iconst X612.here hx rfl (hb hby at_239) kk) ?_
  obtain ⟨T616, L616, _, h616, X616, e616, ⟨rfl, Nq615, eh615⟩, st616⟩ := own_callS X612 hx hZ hown (w197 hw) (w198 hw) (w199 hw) (w3 hw) (by decide) (g := (mkF m 240 #[.val (.int p0), .val (.int p1), .val (.int p2), .val (.int p3), .val (.int p4), .val (.int p5), .val (.ref a506), .val (.int (Int32.ofNat o1)), .val (.int (Int32.ofNat n1)), .val (.int (Int32.ofNat o2)), .val (.int (Int32.ofNat n2)), .val (.int (Int32.ofNat (n1 + n2 + k))), .val (.ref ta), .val (.ref x1)] [(.int (4 : Int32)), (.int (Int32.ofNat o2)), (.int (Int32.ofNat n1)), (.int (Int32.ofNat o1)), (.ref a506), (.ref x1)])) rfl (by rw [hml]; rfl) (argsL := [(.ref x1), (.ref a506), (.int (Int32.ofNat o1)), (.int (Int32.ofNat n1)), (.int (Int32.ofNat o2)), (.int (4 : Int32))]) (rest := []) (rm_ok l Z a0 hw x1 a506 cA507 [c0, c1, c2, c3] o1 n1 o2 n2 4 zc fm _ F589 So hP2 F585 (by show 4 ≤ 1000; omega) (by show _ ≤ 4; omega) (by show _ ≤ 4; omega) (by decide) SC hzc SI rfm) F614 pd__Ljava_lang_String__CIIII_Z rfl rfl (W := 0) (by show 2 * 0 + _ ≤ _; first | exact Nat.le_of_eq rfl | simp [own_cref own_of_ref]) (hb hby at_240) (by decide) (by decide) (by decide) (by decide)
  have F617 := Fr.app F613 Nq615
  have F618 := e616.trans eh615
  refine own_step (T' := T616) (g' := (mkF m 243 #[.val (.int p0), .val (.int p1), .val (.int p2), .val (.int p3), .val (.int p4), .val (.int p5), .val (.ref a506), .val (.int (Int32.ofNat o1)), .val (.int (Int32.ofNat n1)), .val (.int (Int32.ofNat o2)), .val (.int (Int32.ofNat n2)), .val (.int (Int32.ofNat (n1 + n2 + k))), .val (.ref ta), .val (.ref x1)] [(.int (1 : Int32))])) (fun _ kk => st616 _ kk) ?_
  refine own_step (T' := T616) (g' := (mkF m 246 #[.val (.int p0), .val (.int p1), .val (.int p2), .val (.int p3), .val (.int p4), .val (.int p5), .val (.ref a506), .val (.int (Int32.ofNat o1)), .val (.int (Int32.ofNat n1)), .val (.int (Int32.ofNat o2)), .val (.int (Int32.ofNat n2)), .val (.int (Int32.ofNat (n1 + n2 + k))), .val (.ref ta), .val (.ref x1)] [])) (fun _ kk => XS.ifNo X616.here hx rfl (hb hby at_243) rfl ((if0 _ _).trans (feq (by decide)).1) kk) ?_
  refine own_step (T' := T616) (g' := (mkF m 248 #[.val (.int p0), .val (.int p1), .val (.int p2), .val (.int p3), .val (.int p4), .val (.int p5), .val (.ref a506), .val (.int (Int32.ofNat o1)), .val (.int (Int32.ofNat n1)), .val (.int (Int32.ofNat o2)), .val (.int (Int32.ofNat n2)), .val (.int (Int32.ofNat (n1 + n2 + k))), .val (.ref ta), .val (.ref x1)] [(.ref x1)])) (fun _ kk => XS.aload X616.here hx rfl (hb hby at_246) rfl rfl kk) ?_
  refine own_step (T' := T616) (g' := (mkF m 250 #[.val (.int p0), .val (.int p1), .val (.int p2), .val (.int p3), .val (.int p4), .val (.int p5), .val (.ref a506), .val (.int (Int32.ofNat o1)), .val (.int (Int32.ofNat n1)), .val (.int (Int32.ofNat o2)), .val (.int (Int32.ofNat n2)), .val (.int (Int32.ofNat (n1 + n2 + k))), .val (.ref ta), .val (.ref x1)] [(.ref a506), (.ref x1)])) (fun _ kk => XS.aload X616.here hx rfl (hb hby at_248) rfl rfl kk) ?_
  refine own_step (T' := T616) (g' := (mkF m 252 #[.val (.int p0), .val (.int p1), .val (.int p2), .val (.int p3), .val (.int p4), .val (.int p5), .val (.ref a506), .val (.int (Int32.ofNat o1)), .val (.int (Int32.ofNat n1)), .val (.int (Int32.ofNat o2)), .val (.int (Int32.ofNat n2)), .val (.int (Int32.ofNat (n1 + n2 + k))), .val (.ref ta), .val (.ref x1)] [(.int (Int32.ofNat o1)), (.ref a506), (.ref x1)])) (fun _ kk => XS.iload X616.here hx rfl (hb hby at_250) rfl kk) ?_
  refine own_step (T' := T616) (g' := (mkF m 254 #[.val (.int p0), .val (.int p1), .val (.int p2), .val (.int p3), .val (.int p4), .val (.int p5), .val (.ref a506), .val (.int (Int32.ofNat o1)), .val (.int (Int32.ofNat n1)), .val (.int (Int32.ofNat o2)), .val (.int (Int32.ofNat n2)), .val (.int (Int32.ofNat (n1 + n2 + k))), .val (.ref ta), .val (.ref x1)] [(.int (Int32.ofNat n1)), (.int (Int32.ofNat o1)), (.ref a506), (.ref x1)])) (fun _ kk => XS.iload X616.here hx rfl (hb hby at_252) rfl kk) ?_
  refine own_step (T' := T616) (g' := (mkF m 256 #[.val (.int p0), .val (.int p1), .val (.int p2), .val (.int p3), .val (.int p4), .val (.int p5), .val (.ref a506), .val (.int (Int32.ofNat o1)), .val (.int (Int32.ofNat n1)), .val (.int (Int32.ofNat o2)), .val (.int (Int32.ofNat n2)), .val (.int (Int32.ofNat (n1 + n2 + k))), .val (.ref ta), .val (.ref x1)] [(.int (Int32.ofNat o2)), (.int (Int32.ofNat n1)), (.int (Int32.ofNat o1)), (.ref a506), (.ref x1)])) (fun _ kk => XS.iload X616.here hx rfl (hb hby at_254) rfl kk) ?_
  refine own_step (T' := T616) (g' := (mkF m 257 #[.val (.int p0), .val (.int p1), .val (.int p2), .val (.int p3), .val (.int p4), .val (.int p5), .val (.ref a506), .val (.int (Int32.ofNat o1)), .val (.int (Int32.ofNat n1)), .val (.int (Int32.ofNat o2)), .val (.int (Int32.ofNat n2)), .val (.int (Int32.ofNat (n1 + n2 + k))), .val (.ref ta), .val (.ref x1)] [(.int (5 : Int32)), (.int (Int32.ofNat o2)), (.int (Int32.ofNat n1)), (.int (Int32.ofNat o1)), (.ref a506), (.ref x1)])) (fun _ kk => XS.iconst X616.here hx rfl (hb hby at_256) kk) ?_
  obtain ⟨T620, L620, _, h620, X620, e620, ⟨rfl, Nq619, eh619⟩, st620⟩ := own_callS X616 hx hZ hown (w197 hw) (w198 hw) (w199 hw) (w3 hw) (by decide) (g := (mkF m 257 #[.val (.int p0), .val (.int p1), .val (.int p2), .val (.int p3), .val (.int p4), .val (.int p5), .val (.ref a506), .val (.int (Int32.ofNat o1)), .val (.int (Int32.ofNat n1)), .val (.int (Int32.ofNat o2)), .val (.int (Int32.ofNat n2)), .val (.int (Int32.ofNat (n1 + n2 + k))), .val (.ref ta), .val (.ref x1)] [(.int (5 : Int32)), (.int (Int32.ofNat o2)), (.int (Int32.ofNat n1)), (.int (Int32.ofNat o1)), (.ref a506), (.ref x1)])) rfl (by rw [hml]; rfl) (argsL := [(.ref x1), (.ref a506), (.int (Int32.ofNat o1)), (.int (Int32.ofNat n1)), (.int (Int32.ofNat o2)), (.int (5 : Int32))]) (rest := []) (rm_ok l Z a0 hw x1 a506 cA507 [c0, c1, c2, c3] o1 n1 o2 n2 5 zc fm _ F589 So hP2 F585 (by show 4 ≤ 1000; omega) (by show _ ≤ 4; omega) (by show _ ≤ 4; omega) (by decide) SC hzc SI rfm) F618 pd__Ljava_lang_String__CIIII_Z rfl rfl (W := 0) (by show 2 * 0 + _ ≤ _; first | exact Nat.le_of_eq rfl | simp [own_cref own_of_ref]) (hb hby at_257) (by decide) (by decide) (by decide) (by decide)
  have F621 := Fr.app F617 Nq619
  have F622 := e620.trans eh619
  refine own_step (T' := T620) (g' := (mkF m 260 #[.val (.int p0), .val (.int p1), .val (.int p2), .val (.int p3), .val (.int p4), .val (.int p5), .val (.ref a506), .val (.int (Int32.ofNat o1)), .val (.int (Int32.ofNat n1)), .val (.int (Int32.ofNat o2)), .val (.int (Int32.ofNat n2)), .val (.int (Int32.ofNat (n1 + n2 + k))), .val (.ref ta), .val (.ref x1)] [(.int (1 : Int32))])) (fun _ kk => st620 _ kk) ?_
  refine own_step (T' := T620) (g' := (mkF m 263 #[.val (.int p0), .val (.int p1), .val (.int p2), .val (.int p3), .val (.int p4), .val (.int p5), .val (.ref a506), .val (.int (Int32.ofNat o1)), .val (.int (Int32.ofNat n1)), .val (.int (Int32.ofNat o2)), .val (.int (Int32.ofNat n2)), .val (.int (Int32.ofNat (n1 + n2 + k))), .val (.ref ta), .val (.ref x1)] [])) (fun _ kk => XS.ifNo X620.here hx rfl (hb hby at_260) rfl ((if0 _ _).trans (feq (by decide)).1) kk) ?_
  refine own_step (T' := T620) (g' := (mkF m 265 #[.val (.int p0), .val (.int p1), .val (.int p2), .val (.int p3), .val (.int p4), .val (.int p5), .val (.ref a506), .val (.int (Int32.ofNat o1)), .val (.int (Int32.ofNat n1)), .val (.int (Int32.ofNat o2)), .val (.int (Int32.ofNat n2)), .val (.int (Int32.ofNat (n1 + n2 + k))), .val (.ref ta), .val (.ref x1)] [(.ref x1)])) (fun _ kk => XS.aload X620.here hx rfl (hb hby at_263) rfl rfl kk) ?_
  refine own_step (T' := T620) (g' := (mkF m 267 #[.val (.int p0), .val (.int p1), .val (.int p2), .val (.int p3), .val (.int p4), .val (.int p5), .val (.ref a506), .val (.int (Int32.ofNat o1)), .val (.int (Int32.ofNat n1)), .val (.int (Int32.ofNat o2)), .val (.int (Int32.ofNat n2)), .val (.int (Int32.ofNat (n1 + n2 + k))), .val (.ref ta), .val (.ref x1)] [(.ref a506), (.ref x1)])) (fun _ kk => XS.aload X620.here hx rfl (hb hby at_265) rfl rfl kk) ?_
  refine own_step (T' := T620) (g' := (mkF m 269 #[.val (.int p0), .val (.int p1), .val (.int p2), .val (.int p3), .val (.int p4), .val (.int p5), .val (.ref a506), .val (.int (Int32.ofNat o1)), .val (.int (Int32.ofNat n1)), .val (.int (Int32.ofNat o2)), .val (.int (Int32.ofNat n2)), .val (.int (Int32.ofNat (n1 + n2 + k))), .val (.ref ta), .val (.ref x1)] [(.int (Int32.ofNat o1)), (.ref a506), (.ref x1)])) (fun _ kk => XS.iload X620.here hx rfl (hb hby at_267) rfl kk) ?_
  refine own_step (T' := T620) (g' := (mkF m 271 #[.val (.int p0), .val (.int p1), .val (.int p2), .val (.int p3), .val (.int p4), .val (.int p5), .val (.ref a506), .val (.int (Int32.ofNat o1)), .val (.int (Int32.ofNat n1)), .val (.int (Int32.ofNat o2)), .val (.int (Int32.ofNat n2)), .val (.int (Int32.ofNat (n1 + n2 + k))), .val (.ref ta), .val (.ref x1)] [(.int (Int32.ofNat n1)), (.int (Int32.ofNat o1)), (.ref a506), (.ref x1)])) (fun _ kk => XS.iload X620.here hx rfl (hb hby at_269) rfl kk) ?_
  refine own_step (T' := T620) (g' := (mkF m 273 #[.val (.int p0), .val (.int p1), .val (.int p2), .val (.int p3), .val (.int p4), .val (.int p5), .val (.ref a506), .val (.int (Int32.ofNat o1)), .val (.int (Int32.ofNat n1)), .val (.int (Int32.ofNat o2)), .val (.int (Int32.ofNat n2)), .val (.int (Int32.ofNat (n1 + n2 + k))), .val (.ref ta), .val (.ref x1)] [(.int (Int32.ofNat o2)), (.int (Int32.ofNat n1)), (.int (Int32.ofNat o1)), (.ref a506), (.ref x1)])) (fun _ kk => XS.iload X620.here hx rfl (hb hby at_271) rfl kk) ?_
  refine own_step (T' := T620) (g' := (mkF m 275 #[.val (.int p0), .val (.int p1), .val (.int p2), .val (.int p3), .val (.int p4), .val (.int p5), .val (.ref a506), .val (.int (Int32.ofNat o1)), .val (.int (Int32.ofNat n1)), .val (.int (Int32.ofNat o2)), .val (.int (Int32.ofNat n2)), .val (.int (Int32.ofNat (n1 + n2 + k))), .val (.ref ta), .val (.ref x1)] [(.int (6 : Int32)), (.int (Int32.ofNat o2)), (.int (Int32.ofNat n1)), (.int (Int32.ofNat o1)), (.ref a506), (.ref x1)])) (fun _ kk => XS.bipush X620.here hx rfl (hb hby at_273) kk) ?_
  obtain ⟨T624, L624, _, h624, X624, e624, ⟨rfl, Nq623, eh623⟩, st624⟩ := own_callS X620 hx hZ hown (w197 hw) (w198 hw) (w199 hw) (w3 hw) (by decide) (g := (mkF m 275 #[.val (.int p0), .val (.int p1), .val (.int p2), .val (.int p3), .val (.int p4), .val (.int p5), .val (.ref a506), .val (.int (Int32.ofNat o1)), .val (.int (Int32.ofNat n1)), .val (.int (Int32.ofNat o2)), .val (.int (Int32.ofNat n2)), .val (.int (Int32.ofNat (n1 + n2 + k))), .val (.ref ta), .val (.ref x1)] [(.int (6 : Int32)), (.int (Int32.ofNat o2)), (.int (Int32.ofNat n1)), (.int (Int32.ofNat o1)), (.ref a506), (.ref x1)])) rfl (by rw [hml]; rfl) (argsL := [(.ref x1), (.ref a506), (.int (Int32.ofNat o1)), (.int (Int32.ofNat n1)), (.int (Int32.ofNat o2)), (.int (6 : Int32))]) (rest := []) (rm_ok l Z a0 hw x1 a506 cA507 [c0, c1, c2, c3] o1 n1 o2 n2 6 zc fm _ F589 So hP2 F585 (by show 4 ≤ 1000; omega) (by show _ ≤ 4; omega) (by show _ ≤ 4; omega) (by decide) SC hzc SI rfm) F622 pd__Ljava_lang_String__CIIII_Z rfl rfl (W := 0) (by show 2 * 0 + _ ≤ _; first | exact Nat.le_of_eq rfl | simp [own_cref own_of_ref]) (hb hby at_275) (by decide) (by decide) (by decide) (by decide)
  have F625 := Fr.app F621 Nq623
  have F626 := e624.trans eh623
  refine own_step (T' := T624) (g' := (mkF m 278 #[.val (.int p0), .val (.int p1), .val (.int p2), .val (.int p3), .val (.int p4), .val (.int p5), .val (.ref a506), .val (.int (Int32.ofNat o1)), .val (.int (Int32.ofNat n1)), .val (.int (Int32.ofNat o2)), .val (.int (Int32.ofNat n2)), .val (.int (Int32.ofNat (n1 + n2 + k))), .val (.ref ta), .val (.ref x1)] [(.int (1 : Int32))])) (fun _ kk => st624 _ kk) ?_
  refine own_step (T' := T624) (g' := (mkF m 281 #[.val (.int p0), .val (.int p1), .val (.int p2), .val (.int p3), .val (.int p4), .val (.int p5), .val (.ref a506), .val (.int (Int32.ofNat o1)), .val (.int (Int32.ofNat n1)), .val (.int (Int32.ofNat o2)), .val (.int (Int32.ofNat n2)), .val (.int (Int32.ofNat (n1 + n2 + k))), .val (.ref ta), .val (.ref x1)] [])) (fun _ kk => XS.ifNo X624.here hx rfl (hb hby at_278) rfl ((if0 _ _).trans (feq (by decide)).1) kk) ?_
  refine own_step (T' := T624) (g' := (mkF m 283 #[.val (.int p0), .val (.int p1), .val (.int p2), .val (.int p3), .val (.int p4), .val (.int p5), .val (.ref a506), .val (.int (Int32.ofNat o1)), .val (.int (Int32.ofNat n1)), .val (.int (Int32.ofNat o2)), .val (.int (Int32.ofNat n2)), .val (.int (Int32.ofNat (n1 + n2 + k))), .val (.ref ta), .val (.ref x1)] [(.ref x1)])) (fun _ kk => XS.aload X624.here hx rfl (hb hby at_281) rfl rfl kk) ?_
  refine own_step (T' := T624) (g' := (mkF m 285 #[.val (.int p0), .val (.int p1), .val (.int p2), .val (.int p3), .val (.int p4), .val (.int p5), .val (.ref a506), .val (.int (Int32.ofNat o1)), .val (.int (Int32.ofNat n1)), .val (.int (Int32.ofNat o2)), .val (.int (Int32.ofNat n2)), .val (.int (Int32.ofNat (n1 + n2 + k))), .val (.ref ta), .val (.ref x1)] [(.ref a506), (.ref x1)])) (fun _ kk => XS.aload X624.here hx rfl (hb hby at_283) rfl rfl kk) ?_
  refine own_step (T' := T624) (g' := (mkF m 287 #[.val (.int p0), .val (.int p1), .val (.int p2), .val (.int p3), .val (.int p4), .val (.int p5), .val (.ref a506), .val (.int (Int32.ofNat o1)), .val (.int (Int32.ofNat n1)), .val (.int (Int32.ofNat o2)), .val (.int (Int32.ofNat n2)), .val (.int (Int32.ofNat (n1 + n2 + k))), .val (.ref ta), .val (.ref x1)] [(.int (Int32.ofNat o1)), (.ref a506), (.ref x1)])) (fun _ kk => XS.iload X624.here hx rfl (hb hby at_285) rfl kk) ?_
  refine own_step (T' := T624) (g' := (mkF m 289 #[.val (.int p0), .val (.int p1), .val (.int p2), .val (.int p3), .val (.int p4), .val (.int p5), .val (.ref a506), .val (.int (Int32.ofNat o1)), .val (.int (Int32.ofNat n1)), .val (.int (Int32.ofNat o2)), .val (.int (Int32.ofNat n2)), .val (.int (Int32.ofNat (n1 + n2 + k))), .val (.ref ta), .val (.ref x1)] [(.int (Int32.ofNat n1)), (.int (Int32.ofNat o1)), (.ref a506), (.ref x1)])) (fun _ kk => XS.iload X624.here hx rfl (hb hby at_287) rfl kk) ?_
  refine own_step (T' := T624) (g' := (mkF m 291 #[.val (.int p0), .val (.int p1), .val (.int p2), .val (.int p3), .val (.int p4), .val (.int p5), .val (.ref a506), .val (.int (Int32.ofNat o1)), .val (.int (Int32.ofNat n1)), .val (.int (Int32.ofNat o2)), .val (.int (Int32.ofNat n2)), .val (.int (Int32.ofNat (n1 + n2 + k))), .val (.ref ta), .val (.ref x1)] [(.int (Int32.ofNat o2)), (.int (Int32.ofNat n1)), (.int (Int32.ofNat o1)), (.ref a506), (.ref x1)])) (fun _ kk => XS.iload X624.here hx rfl (hb hby at_289) rfl kk) ?_
  refine own_step (T' := T624) (g' := (mkF m 293 #[.val (.int p0), .val (.int p1), .val (.int p2), .val (.int p3), .val (.int p4), .val (.int p5), .val (.ref a506), .val (.int (Int32.ofNat o1)), .val (.int (Int32.ofNat n1)), .val (.int (Int32.ofNat o2)), .val (.int (Int32.ofNat n2)), .val (.int (Int32.ofNat (n1 + n2 + k))), .val (.ref ta), .val (.ref x1)] [(.int (7 : Int32)), (.int (Int32.ofNat o2)), (.int (Int32.ofNat n1)), (.int (Int32.ofNat o1)), (.ref a506), (.ref x1)])) (fun _ kk => XS.bipush X624.here hx rfl (hb hby at_291) kk) ?_
  obtain ⟨T628, L628, _, h628, X628, e628, ⟨rfl, Nq627, eh627⟩, st628⟩ := own_callS X624 hx hZ hown (w197 hw) (w198 hw) (w199 hw) (w3 hw) (by decide) (g := (mkF m 293 #[.val (.int p0), .val (.int p1), .val (.int p2), .val (.int p3), .val (.int p4), .val (.int p5), .val (.ref a506), .val (.int (Int32.ofNat o1)), .val (.int (Int32.ofNat n1)), .val (.int (Int32.ofNat o2)), .val (.int (Int32.ofNat n2)), .val (.int (Int32.ofNat (n1 + n2 + k))), .val (.ref ta), .val (.ref x1)] [(.int (7 : Int32)), (.int (Int32.ofNat o2)), (.int (Int32.ofNat n1)), (.int (Int32.ofNat o1)), (.ref a506), (.ref x1)])) rfl (by rw [hml]; rfl) (argsL := [(.ref x1), (.ref a506), (.int (Int32.ofNat o1)), (.int (Int32.ofNat n1)), (.int (Int32.ofNat o2)), (.int (7 : Int32))]) (rest := []) (rm_ok l Z a0 hw x1 a506 cA507 [c0, c1, c2, c3] o1 n1 o2 n2 7 zc fm _ F589 So hP2 F585 (by show 4 ≤ 1000; omega) (by show _ ≤ 4; omega) (by show _ ≤ 4; omega) (by decide) SC hzc SI rfm) F626 pd__Ljava_lang_String__CIIII_Z rfl rfl (W := 0) (by show 2 * 0 + _ ≤ _; first | exact Nat.le_of_eq rfl | simp [own_cref own_of_ref]) (hb hby at_293) (by decide) (by decide) (by decide) (by decide)
  have F629 := Fr.app F625 Nq627
  have F630 := e628.trans eh627
  refine own_step (T' := T628) (g' := (mkF m 296 #[.val (.int p0), .val (.int p1), .val (.int p2), .val (.int p3), .val (.int p4), .val (.int p5), .val (.ref a506), .val (.int (Int32.ofNat o1)), .val (.int (Int32.ofNat n1)), .val (.int (Int32.ofNat o2)), .val (.int (Int32.ofNat n2)), .val (.int (Int32.ofNat (n1 + n2 + k))), .val (.ref ta), .val (.ref x1)] [(.int (1 : Int32))])) (fun _ kk => st628 _ kk) ?_
  refine own_step (T' := T628) (g' := (mkF m 299 #[.val (.int p0), .val (.int p1), .val (.int p2), .val (.int p3), .val (.int p4), .val (.int p5), .val (.ref a506), .val (.int (Int32.ofNat o1)), .val (.int (Int32.ofNat n1)), .val (.int (Int32.ofNat o2)), .val (.int (Int32.ofNat n2)), .val (.int (Int32.ofNat (n1 + n2 + k))), .val (.ref ta), .val (.ref x1)] [])) (fun _ kk => XS.ifNo X628.here hx rfl (hb hby at_296) rfl ((if0 _ _).trans (feq (by decide)).1) kk) ?_
  refine own_step (T' := T628) (g' := (mkF m 300 #[.val (.int p0), .val (.int p1), .val (.int p2), .val (.int p3), .val (.int p4), .val (.int p5), .val (.ref a506), .val (.int (Int32.ofNat o1)), .val (.int (Int32.ofNat n1)), .val (.int (Int32.ofNat o2)), .val (.int (Int32.ofNat n2)), .val (.int (Int32.ofNat (n1 + n2 + k))), .val (.ref ta), .val (.ref x1)] [(.int (1 : Int32))])) (fun _ kk => XS.iconst X628.here hx rfl (hb hby at_299) kk) ?_
  refine own_step (T' := T628) (g' := (mkF m 304 #[.val (.int p0), .val (.int p1), .val (.int p2), .val (.int p3), .val (.int p4), .val (.int p5), .val (.ref a506), .val (.int (Int32.ofNat o1)), .val (.int (Int32.ofNat n1)), .val (.int (Int32.ofNat o2)), .val (.int (Int32.ofNat n2)), .val (.int (Int32.ofNat (n1 + n2 + k))), .val (.ref ta), .val (.ref x1)] [(.int (1 : Int32))])) (fun _ kk => XS.goto X628.here hx rfl (pc0 := 300) (pc' := 304) rfl (hb hby at_300) (by decide) (by decide) kk) ?_
  exact own_retN X628 hx hlk (t := .boolean) hret (by simp) (hb hby at_304) F630 ⟨rfl, F629⟩ (by decide) (by decide)
set_option maxRecDepth 65536 in
set_option maxHeartbeats 40000000 in
theorem comes_1 {Post : Tables → Env → Array Value → State → Outcome → State → Prop} (hpost : ∀ tb e args s v u, (limb_1_1.after args s (.returned v) u = true ∧ limb_1_2.after args s (.returned v) u = true ∧ True) → FrameEnd s (.returned v) u (Jvm.fieldLocs frame_1_writes args s ++ Jvm.arrayLocs frame_1_arrays args s ++ Jvm.staticLocs frame_1_statics s) 24 192 → Post tb e args s (.returned v) u) :
    ArmFor flags0 classFile x code maxLocals ret World_1 tables_1 room_1 Calls_1 rest_1 Pre_1 Post := by
  intro l hfl _ _ p e ha hc hk s m args below hf hA hF happ hP
  obtain ⟨hcalls, hrest, hpre⟩ := hP
  obtain ⟨-, -, -, hnamed, -, -, -, hat⟩ := (Spec.applies_iff hf).mp happ
  obtain ⟨hg, hn⟩ := and_e (Cond.before_iff.mp (show (Jvm.Cond.and given_1 narrow_1).before args s = true from hpre))
  obtain ⟨hg1, hg⟩ := and_e hg
  obtain ⟨hg2, hg⟩ := and_e hg
  obtain ⟨hg3, hg⟩ := and_e hg
  obtain ⟨hg4, hg⟩ := and_e hg
  obtain ⟨hg5, hg⟩ := and_e hg
  obtain ⟨hg6, hg⟩ := and_e hg
  have hg7 := hg
  obtain ⟨w0, w1, w2, w3, w4, w5, rfl⟩ : ∃ w0 w1 w2 w3 w4 w5 : Value, args = #[w0, w1, w2, w3, w4, w5] := by
    have hs : args.size = 6 := by simpa [Cond.value, given_1] using hg1
    obtain ⟨L⟩ := args
    match L, hs with
    | [w0, w1, w2, w3, w4, w5], _ => exact ⟨w0, w1, w2, w3, w4, w5, rfl⟩
  have hw := fun d (hd : d ∈ tables_1) => atoms_spec (ws := Jvm.Cond.code x code maxLocals ret :: tables_1) hat d (List.mem_cons_of_mem _ hd)
  have hsets := (atoms_of jdkStatics_1 (show (jdkStatics_1.foldr Jvm.Cond.and restOwn_1).before _ s = true from hrest)).1
  obtain ⟨i0, e0⟩ := is_v hg2
  obtain rfl : w0 = (.int i0) := Option.some.inj e0
  obtain ⟨i1, e1⟩ := is_v hg3
  obtain rfl : w1 = (.int i1) := Option.some.inj e1
  obtain ⟨i2, e2⟩ := is_v hg4
  obtain rfl : w2 = (.int i2) := Option.some.inj e2
  obtain ⟨i3, e3⟩ := is_v hg5
  obtain rfl : w3 = (.int i3) := Option.some.inj e3
  obtain ⟨i4, e4⟩ := is_v hg6
  obtain rfl : w4 = (.int i4) := Option.some.inj e4
  obtain ⟨i5, e5⟩ := is_v hg7
  obtain rfl : w5 = (.int i5) := Option.some.inj e5
  have hfit : Fit s := fun {y c} hc i hi => by
    obtain ⟨ha, rfl⟩ := Array.getElem?_eq_some_iff.mp hc
    have q := List.all_eq_true.mp ((Array.all_eq_true_iff_forall_mem.mp hF) _ (Array.getElem_mem ha)) i (List.mem_range.mpr hi)
    simpa [Array.getElem?_eq_getElem hi] using q
  obtain ⟨zc, evc⟩ := is_v (Cond.before_iff.mp (hsets _ (List.mem_of_getElem? (i := 1) rfl)))
  have SC := Sta.start evc (Or.inl (hsets _ (List.mem_of_getElem? (i := 0) rfl)))
  have hzc : ¬ zc = (0 : Int32) := fun q => by
    have h1 := not_v (Cond.before_iff.mp (hsets _ (List.mem_of_getElem? (i := 2) rfl)))
    exact gotF (Cond.eq_ints evc (Term.int_eval 0)) h1 q
  obtain ⟨fm, evf, rfm⟩ := isR_v (Cond.before_iff.mp (hsets _ (List.mem_of_getElem? (i := 8) rfl)))
  have SI := Sta.start evf (Or.inl (hsets _ (List.mem_of_getElem? (i := 7) rfl)))
  obtain ⟨fi, evi, fii⟩ := static_fit (args := #[.int i0, .int i1, .int i2, .int i3, .int i4, .int i5]) hfit (w78 hw) (ty := .object "java/util/function/BiFunction") (by decide)
  have rfi : fi.isRef = true := by cases fi <;> simp [fits] at fii <;> rfl
  have IO := Sta.start evi (Or.inr ⟨(w77 hw), (w78 hw)⟩)
  obtain ⟨em, eve⟩ := exa_v (Cond.before_iff.mp (hsets _ (List.mem_of_getElem? (i := 11) rfl)))
  have SE := Sta.start eve (Or.inl (hsets _ (List.mem_of_getElem? (i := 10) rfl)))
  obtain ⟨n, o, g1, g2, g3, _, L, rfl, ⟨rfl, N⟩, hq⟩ := rm_law l s _ hw i0 i1 i2 i3 i4 i5 zc fm fi em s.heap (Old.start s) SC hzc SI rfm IO rfi SE tables_1 p e ha hc hk s m _ below hf ((Spec.applies_iff_loose hf).mp happ).1 ⟨rfl, State.Warmed39.refl s, rfl⟩ trivial
  refine ⟨n, _, g1, g2, g3, hpost _ _ _ _ _ _ ⟨Cond.after_iff.mpr rfl, Cond.after_iff.mpr (eq_i res_at (Term.int_eval (1)) rfl), trivial⟩ ⟨hq.1, hq.2.1, (hq.2.2.sift fun y hy => Or.inr (N y hy)).mono (by decide) (by decide)⟩⟩
theorem main_1_1 : Claimed_1_1 := comes_1 fun _ _ _ _ _ _ h hF => ⟨h.1, hF⟩
theorem main_1_2 : Claimed_1_2 := comes_1 fun _ _ _ _ _ _ h hF => ⟨h.2.1, hF⟩
end Jvm.Pilot.@@N@@
namespace Jvm.Pilot.@@N@@
open Jvm Jvm.ClassFile Sem Op Lib Jvm.Free Jvm.Stand Jvm.Pilot.@@N@@.Jvm.D
/-! MADE BY PROGRAM (witnessworld.py) out of the Statement's table words and the real class files: 32 classes; the members and pool entries that the words name. The judged class is class 1, her method 1. -/
namespace start1
open Jvm.ClassFile
def u (s : String) : CpInfo := .utf8 (stringToUtf16 s)
/-- a pool by its gaps: so many unusable entries, then the entry; so many at the end -/
def gap : Nat → List CpInfo → List CpInfo
  | 0, r => r
  | n + 1, r => .unusable :: gap n r
def poolList (es : List (Nat × CpInfo)) (last : Nat) : List CpInfo := es.foldr (fun e r => gap e.1 (e.2 :: r)) (gap last [])
def pool (es : List (Nat × CpInfo)) (last : Nat) : Array CpInfo := ⟨poolList es last⟩
def fileOf (pool : Array CpInfo) (this : Nat) (attrs : Array Attribute := #[]) (ms : Array MethodInfo := #[]) (fl : Nat := 33) (sup : Nat := 0) (ifs : Array Nat := #[]) (fds : Array FieldInfo := #[]) : ClassFile where
  minorVersion := 0
  majorVersion := 65
  constantPool := pool
  accessFlags := fl
  thisClass := this
  superClass := sup
  interfaces := ifs
  fields := fds
  methods := ms
  attributes := attrs
def plain (name : String) (sup : Option ClassId) : Class where
  name := name
  kind := .ordinary
  loader := none
  accessFlags := 33
  super := sup
  interfaces := #[]
  cf := none
  fields := #[]
  methods := #[]
  instanceTypes := #[]
  staticTypes := #[]
  resolved := #[]
  callSites := []
  init := .initialized
  statics := none
  mirror := none

def pool0 : Array CpInfo := pool [(5, u "<init>"), (0, u "()V"), (1, .class_ 10), (1, u "java/lang/Object")] 113

def k0c0 : Code := { maxStack := 0, maxLocals := 1, code := object_method_1_code, exceptionTable := #[], attributes := #[] }
def k0m0 : Method := { name := "<init>", desc := "()V", sig := { parameters := [], returnType := none }, accessFlags := 1, code := some k0c0 }
/-- java/lang/Object -/
def k0 : Class := { plain "java/lang/Object" none with
  accessFlags := 33
  interfaces := #[]
  cf := some (fileOf pool0 8 #[] #[{ accessFlags := 1, nameIndex := 5, descriptorIndex := 6, attributes := #[] }] 33 0 #[] #[])
  fields := #[]
  methods := #[k0m0]
  instanceTypes := #[]
  staticTypes := #[]
  resolved := Array.replicate 124 none
  statics := none }

def pool1 : Array CpInfo := pool [(2, .class_ 4), (1, u "java/lang/Object"), (0, u "<init>"), (0, u "()V"), (0, .methodref 8 9), (0, .class_ 10), (0, .nameAndType 11 12), (0, u "com/example/hradcany/hradcany/authzen/AnswerTextWrite122PinLaw"), (0, u "draw"), (0, u "(II)C"), (0, .integer 2147483647), (0, .class_ 15), (0, u "com/example/hradcany/hradcany/authzen/AnswerText"), (0, .methodref 14 17), (0, .nameAndType 5 18), (0, u "(I)V"), (0, .methodref 14 20), (0, .nameAndType 21 22), (0, u "write"), (0, u "([CII)V"), (0, .methodref 14 24), (0, .nameAndType 25 26), (0, u "sent"), (0, u "()Ljava/util/Optional;"), (0, .methodref 28 29), (0, .class_ 30), (0, .nameAndType 31 32), (0, u "java/util/Optional"), (0, u "orElse"), (0, u "(Ljava/lang/Object;)Ljava/lang/Object;"), (0, .class_ 34), (0, u "java/lang/String"), (0, .methodref 33 36), (0, .nameAndType 37 38), (0, u "length"), (0, u "()I"), (0, .methodref 8 40), (0, .nameAndType 41 42), (0, u "ok"), (0, u "(Ljava/lang/String;[CIIII)Z"), (0, .methodref 33 44), (0, .nameAndType 45 46), (0, u "charAt"), (0, u "(I)C"), (2, u "law"), (0, u "(IIIIII)Z")] 8

def k1m0 : Method := { name := "<init>", desc := "()V", sig := { parameters := [], returnType := none }, accessFlags := 1, code := none }
def k1c1 : Code := { maxStack := 6, maxLocals := 14, code := code, exceptionTable := #[], attributes := #[] }
def k1m1 : Method := { name := "law", desc := "(IIIIII)Z", sig := { parameters := [.int, .int, .int, .int, .int, .int], returnType := some .boolean }, accessFlags := 9, code := some k1c1 }
def k1c2 : Code := { maxStack := 4, maxLocals := 2, code := method_3_code, exceptionTable := #[], attributes := #[] }
def k1m2 : Method := { name := "draw", desc := "(II)C", sig := { parameters := [.int, .int], returnType := some .char }, accessFlags := 10, code := some k1c2 }
def k1c3 : Code := { maxStack := 3, maxLocals := 7, code := method_4_code, exceptionTable := #[], attributes := #[] }
def k1m3 : Method := { name := "ok", desc := "(Ljava/lang/String;[CIIII)Z", sig := { parameters := [(.object "java/lang/String"), (.array .char), .int, .int, .int, .int], returnType := some .boolean }, accessFlags := 10, code := some k1c3 }
/-- com/example/hradcany/hradcany/authzen/AnswerTextWrite122PinLaw -/
def k1 : Class := { plain "com/example/hradcany/hradcany/authzen/AnswerTextWrite122PinLaw" (some 0) with
  accessFlags := 49
  interfaces := #[]
  cf := some (fileOf pool1 8 #[] #[{ accessFlags := 1, nameIndex := 5, descriptorIndex := 6, attributes := #[] }, { accessFlags := 9, nameIndex := 49, descriptorIndex := 50, attributes := #[] }, { accessFlags := 10, nameIndex := 11, descriptorIndex := 12, attributes := #[] }, { accessFlags := 10, nameIndex := 41, descriptorIndex := 42, attributes := #[] }] 49 2 #[] #[])
  fields := #[]
  methods := #[k1m0, k1m1, k1m2, k1m3]
  instanceTypes := #[]
  staticTypes := #[]
  resolved := Array.replicate 59 none
  statics := none }

def pool2 : Array CpInfo := pool [(1, .class_ 2), (0, u "java/lang/Appendable"), (0, .class_ 4), (0, u "java/lang/Object")] 9

/-- java/lang/Appendable -/
def k2 : Class := { plain "java/lang/Appendable" (some 0) with
  accessFlags := 1537
  interfaces := #[]
  cf := some (fileOf pool2 1 #[] #[] 1537 3 #[] #[])
  fields := #[]
  methods := #[]
  instanceTypes := #[]
  staticTypes := #[]
  resolved := Array.replicate 14 none
  statics := none }

def pool3 : Array CpInfo := pool [(1, .class_ 2), (0, u "java/lang/AutoCloseable"), (0, .class_ 4), (0, u "java/lang/Object")] 7

/-- java/lang/AutoCloseable -/
def k3 : Class := { plain "java/lang/AutoCloseable" (some 0) with
  accessFlags := 1537
  interfaces := #[]
  cf := some (fileOf pool3 1 #[] #[] 1537 3 #[] #[])
  fields := #[]
  methods := #[]
  instanceTypes := #[]
  staticTypes := #[]
  resolved := Array.replicate 12 none
  statics := none }

def pool4 : Array CpInfo := pool [(1, .class_ 2), (0, u "java/io/Closeable"), (0, .class_ 4), (0, u "java/lang/Object"), (0, .class_ 6), (0, u "java/lang/AutoCloseable")] 7

/-- java/io/Closeable -/
def k4 : Class := { plain "java/io/Closeable" (some 0) with
  accessFlags := 1537
  interfaces := #[3]
  cf := some (fileOf pool4 1 #[] #[] 1537 3 #[5] #[])
  fields := #[]
  methods := #[]
  instanceTypes := #[]
  staticTypes := #[]
  resolved := Array.replicate 14 none
  statics := none }

def pool5 : Array CpInfo := pool [(1, .class_ 2), (0, u "java/io/Flushable"), (0, .class_ 4), (0, u "java/lang/Object")] 7

/-- java/io/Flushable -/
def k5 : Class := { plain "java/io/Flushable" (some 0) with
  accessFlags := 1537
  interfaces := #[]
  cf := some (fileOf pool5 1 #[] #[] 1537 3 #[] #[])
  fields := #[]
  methods := #[]
  instanceTypes := #[]
  staticTypes := #[]
  resolved := Array.replicate 12 none
  statics := none }

def pool6 : Array CpInfo := pool [(1, .class_ 2), (0, u "java/io/Writer$1"), (1, .nameAndType 5 6), (0, u "<init>"), (0, u "()V"), (0, .methodref 8 4), (0, .class_ 9), (0, u "java/lang/Object"), (0, .fieldref 11 12), (0, .class_ 13), (0, .nameAndType 14 15), (0, u "java/io/Writer"), (0, u "lock"), (0, u "Ljava/lang/Object;"), (30, u "writeBuffer"), (0, u "[C"), (46, .class_ 95), (0, u "java/lang/Appendable"), (0, .class_ 97), (0, u "java/io/Closeable"), (0, .class_ 99), (0, u "java/io/Flushable"), (0, u "WRITE_BUFFER_SIZE"), (0, u "I")] 49

def k6c0 : Code := { maxStack := 2, maxLocals := 1, code := jdk_2052_method_2_code, exceptionTable := #[], attributes := #[] }
def k6m0 : Method := { name := "<init>", desc := "()V", sig := { parameters := [], returnType := none }, accessFlags := 4, code := some k6c0 }
/-- java/io/Writer -/
def k6 : Class := { plain "java/io/Writer" (some 0) with
  accessFlags := 1057
  interfaces := #[2, 4, 5]
  cf := some (fileOf pool6 11 #[.nestMembers #[1]] #[{ accessFlags := 4, nameIndex := 5, descriptorIndex := 6, attributes := #[] }] 1057 8 #[94, 96, 98] #[{ accessFlags := 2, nameIndex := 46, descriptorIndex := 47, attributes := #[] }, { accessFlags := 26, nameIndex := 100, descriptorIndex := 101, attributes := #[] }, { accessFlags := 4, nameIndex := 14, descriptorIndex := 15, attributes := #[] }])
  fields := #[{ name := "writeBuffer", type := (.array .char), accessFlags := 2, slot := 0, constantValue := 0 }, { name := "WRITE_BUFFER_SIZE", type := .int, accessFlags := 26, slot := 0, constantValue := 0 }, { name := "lock", type := (.object "java/lang/Object"), accessFlags := 4, slot := 1, constantValue := 0 }]
  methods := #[k6m0]
  instanceTypes := #[(.array .char), (.object "java/lang/Object")]
  staticTypes := #[.int]
  resolved := Array.replicate 151 none
  statics := none }

def pool7 : Array CpInfo := pool [(1, .methodref 2 3), (0, .class_ 4), (0, .nameAndType 5 6), (0, u "java/io/Writer"), (0, u "<init>"), (0, u "()V"), (0, .class_ 8), (0, u "java/lang/StringBuilder"), (0, .methodref 7 3), (0, .fieldref 11 12), (0, .class_ 13), (0, .nameAndType 14 15), (0, u "com/example/hradcany/hradcany/authzen/AnswerText"), (0, u "text"), (0, u "Ljava/lang/StringBuilder;"), (0, .fieldref 11 17), (0, .nameAndType 18 19), (0, u "mostBytes"), (0, u "I"), (0, .methodref 11 21), (0, .nameAndType 22 23), (0, u "take"), (0, u "(I)V"), (0, .methodref 7 25), (0, .nameAndType 26 27), (0, u "append"), (0, u "([CII)Ljava/lang/StringBuilder;"), (3, .methodref 7 32), (0, .nameAndType 33 34), (0, u "toString"), (0, u "()Ljava/lang/String;"), (0, .methodref 36 37), (0, .class_ 38), (0, .nameAndType 39 40), (0, u "com/example/hradcany/hradcany/input/OneLine"), (0, u "of"), (0, u "(Ljava/lang/String;)Ljava/lang/String;"), (0, .methodref 42 43), (0, .class_ 44), (0, .nameAndType 45 46), (0, u "java/util/Optional"), (0, u "empty"), (0, u "()Ljava/util/Optional;"), (0, .methodref 11 48), (0, .nameAndType 49 50), (0, u "utf8Length"), (0, u "(Ljava/lang/String;)J"), (0, .methodref 42 52), (0, .nameAndType 39 53), (0, u "(Ljava/lang/Object;)Ljava/util/Optional;"), (0, .methodref 7 55), (0, .nameAndType 56 57), (0, u "length"), (0, u "()I"), (0, .class_ 59), (0, u "com/example/hradcany/hradcany/authzen/AnswerText$TooLong"), (2, .methodref 63 55), (0, .class_ 64), (0, u "java/lang/String"), (0, .methodref 63 66), (0, .nameAndType 67 68), (0, u "charAt"), (0, u "(I)C"), (6, .long 2), (1, .long 3), (3, u "write"), (0, u "([CII)V"), (4, u "sent")] 8

def k7c0 : Code := { maxStack := 3, maxLocals := 2, code := prog_1_method_1_code, exceptionTable := #[], attributes := #[] }
def k7m0 : Method := { name := "<init>", desc := "(I)V", sig := { parameters := [.int], returnType := none }, accessFlags := 0, code := some k7c0 }
def k7c1 : Code := { maxStack := 4, maxLocals := 4, code := prog_1_method_2_code, exceptionTable := #[], attributes := #[] }
def k7m1 : Method := { name := "write", desc := "([CII)V", sig := { parameters := [(.array .char), .int, .int], returnType := none }, accessFlags := 1, code := some k7c1 }
def k7c2 : Code := { maxStack := 4, maxLocals := 3, code := prog_1_method_6_code, exceptionTable := #[], attributes := #[] }
def k7m2 : Method := { name := "sent", desc := "()Ljava/util/Optional;", sig := { parameters := [], returnType := some (.object "java/util/Optional") }, accessFlags := 0, code := some k7c2 }
def k7c3 : Code := { maxStack := 3, maxLocals := 2, code := prog_1_method_7_code, exceptionTable := #[], attributes := #[] }
def k7m3 : Method := { name := "take", desc := "(I)V", sig := { parameters := [.int], returnType := none }, accessFlags := 2, code := some k7c3 }
def k7c4 : Code := { maxStack := 4, maxLocals := 5, code := prog_1_method_8_code, exceptionTable := #[], attributes := #[] }
def k7m4 : Method := { name := "utf8Length", desc := "(Ljava/lang/String;)J", sig := { parameters := [(.object "java/lang/String")], returnType := some .long }, accessFlags := 10, code := some k7c4 }
/-- com/example/hradcany/hradcany/authzen/AnswerText -/
def k7 : Class := { plain "com/example/hradcany/hradcany/authzen/AnswerText" (some 6) with
  accessFlags := 32
  interfaces := #[]
  cf := some (fileOf pool7 11 #[.nestMembers #[58]] #[{ accessFlags := 0, nameIndex := 5, descriptorIndex := 23, attributes := #[] }, { accessFlags := 1, nameIndex := 81, descriptorIndex := 82, attributes := #[] }, { accessFlags := 0, nameIndex := 87, descriptorIndex := 46, attributes := #[] }, { accessFlags := 2, nameIndex := 22, descriptorIndex := 23, attributes := #[] }, { accessFlags := 10, nameIndex := 49, descriptorIndex := 50, attributes := #[] }] 32 2 #[] #[{ accessFlags := 18, nameIndex := 14, descriptorIndex := 15, attributes := #[] }, { accessFlags := 18, nameIndex := 18, descriptorIndex := 19, attributes := #[] }])
  fields := #[{ name := "text", type := (.object "java/lang/StringBuilder"), accessFlags := 18, slot := 2, constantValue := 0 }, { name := "mostBytes", type := .int, accessFlags := 18, slot := 3, constantValue := 0 }]
  methods := #[k7m0, k7m1, k7m2, k7m3, k7m4]
  instanceTypes := #[(.array .char), (.object "java/lang/Object"), (.object "java/lang/StringBuilder"), .int]
  staticTypes := #[]
  resolved := Array.replicate 96 none
  statics := none }

def pool8 : Array CpInfo := pool [(2, .class_ 4), (1, u "java/lang/CharSequence"), (42, .class_ 48), (0, u "java/lang/CharSequence$1CodePointIterator"), (10, .class_ 60), (0, u "java/lang/CharSequence$1CharIterator"), (5, .class_ 67), (0, u "java/lang/Object")] 63

/-- java/lang/CharSequence -/
def k8 : Class := { plain "java/lang/CharSequence" (some 0) with
  accessFlags := 1537
  interfaces := #[]
  cf := some (fileOf pool8 2 #[.nestMembers #[47, 59]] #[] 1537 66 #[] #[])
  fields := #[]
  methods := #[]
  instanceTypes := #[]
  staticTypes := #[]
  resolved := Array.replicate 131 none
  statics := none }

def pool9 : Array CpInfo := pool [(1, .class_ 2), (0, u "java/lang/String"), (0, .methodref 4 5), (0, .class_ 6), (0, .nameAndType 7 8), (0, u "java/lang/Object"), (0, u "<init>"), (0, u "()V"), (1, .class_ 12), (1, u "java/lang/AbstractStringBuilder"), (0, u "EMPTYVALUE"), (0, u "[B"), (0, .fieldref 10 16), (0, .nameAndType 17 14), (0, u "value"), (0, .fieldref 1 19), (0, .nameAndType 20 21), (0, u "COMPACT_STRINGS"), (0, u "Z"), (0, .fieldref 10 23), (0, .nameAndType 24 25), (0, u "coder"), (0, u "B"), (8, u "length"), (0, u "()I"), (9, u "append"), (2, .class_ 49), (0, u "java/lang/CharSequence"), (25, u "maybeLatin1"), (3, .fieldref 10 80), (0, .nameAndType 81 82), (0, u "count"), (0, u "I"), (0, .methodref 10 84), (0, .nameAndType 85 86), (0, u "isLatin1"), (0, u "()Z"), (1, .class_ 90), (1, u "java/lang/StringLatin1"), (9, .methodref 10 101), (0, .nameAndType 102 103), (0, u "ensureCapacityInternal"), (0, u "(I)V"), (57, .methodref 162 163), (0, .class_ 164), (0, .nameAndType 165 166), (0, u "jdk/internal/util/Preconditions"), (0, u "checkFromToIndex"), (0, u "(IIILjava/util/function/BiFunction;)I"), (15, u "Ljava/util/function/BiFunction;"), (0, .fieldref 162 184), (0, .nameAndType 185 182), (0, u "IOOBE_FORMATTER"), (5, .methodref 88 192), (0, .nameAndType 193 194), (0, u "canEncode"), (0, u "(C)Z"), (39, u "appendChars"), (4, .methodref 10 240), (0, .nameAndType 234 241), (0, u "([CII)V"), (161, u "()[B"), (40, .class_ 445), (0, u "java/lang/Appendable"), (60, u "([CII)Ljava/lang/AbstractStringBuilder;"), (45, u "getValue")] 56

def k9m0 : Method := { name := "<init>", desc := "()V", sig := { parameters := [], returnType := none }, accessFlags := 0, code := none }
def k9c1 : Code := { maxStack := 2, maxLocals := 2, code := jdk_68_method_2_code, exceptionTable := #[], attributes := #[] }
def k9m1 : Method := { name := "<init>", desc := "(I)V", sig := { parameters := [.int], returnType := none }, accessFlags := 0, code := some k9c1 }
def k9c2 : Code := { maxStack := 1, maxLocals := 1, code := jdk_68_method_6_code, exceptionTable := #[], attributes := #[] }
def k9m2 : Method := { name := "length", desc := "()I", sig := { parameters := [], returnType := some .int }, accessFlags := 1, code := some k9c2 }
def k9c3 : Code := { maxStack := 4, maxLocals := 3, code := jdk_68_method_9_code, exceptionTable := #[], attributes := #[] }
def k9m3 : Method := { name := "ensureCapacityInternal", desc := "(I)V", sig := { parameters := [.int], returnType := none }, accessFlags := 2, code := some k9c3 }
def k9c4 : Code := { maxStack := 4, maxLocals := 5, code := jdk_68_method_29_code, exceptionTable := #[], attributes := #[] }
def k9m4 : Method := { name := "append", desc := "([CII)Ljava/lang/AbstractStringBuilder;", sig := { parameters := [(.array .char), .int, .int], returnType := some (.object "java/lang/AbstractStringBuilder") }, accessFlags := 1, code := some k9c4 }
def k9c5 : Code := { maxStack := 1, maxLocals := 1, code := jdk_68_method_64_code, exceptionTable := #[], attributes := #[] }
def k9m5 : Method := { name := "getValue", desc := "()[B", sig := { parameters := [], returnType := some (.array .byte) }, accessFlags := 16, code := some k9c5 }
def k9c6 : Code := { maxStack := 1, maxLocals := 1, code := jdk_68_method_68_code, exceptionTable := #[], attributes := #[] }
def k9m6 : Method := { name := "isLatin1", desc := "()Z", sig := { parameters := [], returnType := some .boolean }, accessFlags := 16, code := some k9c6 }
def k9c7 : Code := { maxStack := 5, maxLocals := 9, code := jdk_68_method_74_code, exceptionTable := #[], attributes := #[] }
def k9m7 : Method := { name := "appendChars", desc := "([CII)V", sig := { parameters := [(.array .char), .int, .int], returnType := none }, accessFlags := 18, code := some k9c7 }
/-- java/lang/AbstractStringBuilder -/
def k9 : Class := { plain "java/lang/AbstractStringBuilder" (some 0) with
  accessFlags := 1056
  interfaces := #[2, 8]
  cf := some (fileOf pool9 10 #[] #[{ accessFlags := 0, nameIndex := 7, descriptorIndex := 8, attributes := #[] }, { accessFlags := 0, nameIndex := 7, descriptorIndex := 103, attributes := #[] }, { accessFlags := 1, nameIndex := 34, descriptorIndex := 35, attributes := #[] }, { accessFlags := 2, nameIndex := 102, descriptorIndex := 103, attributes := #[] }, { accessFlags := 1, nameIndex := 45, descriptorIndex := 506, attributes := #[] }, { accessFlags := 16, nameIndex := 552, descriptorIndex := 403, attributes := #[] }, { accessFlags := 16, nameIndex := 85, descriptorIndex := 86, attributes := #[] }, { accessFlags := 18, nameIndex := 234, descriptorIndex := 241, attributes := #[] }] 1056 4 #[444, 48] #[{ accessFlags := 0, nameIndex := 17, descriptorIndex := 14, attributes := #[] }, { accessFlags := 0, nameIndex := 24, descriptorIndex := 25, attributes := #[] }, { accessFlags := 0, nameIndex := 75, descriptorIndex := 21, attributes := #[] }, { accessFlags := 0, nameIndex := 81, descriptorIndex := 82, attributes := #[] }, { accessFlags := 26, nameIndex := 13, descriptorIndex := 14, attributes := #[] }])
  fields := #[{ name := "value", type := (.array .byte), accessFlags := 0, slot := 0, constantValue := 0 }, { name := "coder", type := .byte, accessFlags := 0, slot := 1, constantValue := 0 }, { name := "maybeLatin1", type := .boolean, accessFlags := 0, slot := 2, constantValue := 0 }, { name := "count", type := .int, accessFlags := 0, slot := 3, constantValue := 0 }, { name := "EMPTYVALUE", type := (.array .byte), accessFlags := 26, slot := 0, constantValue := 0 }]
  methods := #[k9m0, k9m1, k9m2, k9m3, k9m4, k9m5, k9m6, k9m7]
  instanceTypes := #[(.array .byte), .byte, .boolean, .int]
  staticTypes := #[(.array .byte)]
  resolved := Array.replicate 609 none
  statics := none }

def pool10 : Array CpInfo := pool [(1, .class_ 2), (0, u "java/io/Serializable"), (0, .class_ 4), (0, u "java/lang/Object")] 2

/-- java/io/Serializable -/
def k10 : Class := { plain "java/io/Serializable" (some 0) with
  accessFlags := 1537
  interfaces := #[]
  cf := some (fileOf pool10 1 #[] #[] 1537 3 #[] #[])
  fields := #[]
  methods := #[]
  instanceTypes := #[]
  staticTypes := #[]
  resolved := Array.replicate 7 none
  statics := none }

def pool11 : Array CpInfo := pool [(1, .class_ 2), (0, u "java/lang/Comparable"), (0, .class_ 4), (0, u "java/lang/Object")] 7

/-- java/lang/Comparable -/
def k11 : Class := { plain "java/lang/Comparable" (some 0) with
  accessFlags := 1537
  interfaces := #[]
  cf := some (fileOf pool11 1 #[] #[] 1537 3 #[] #[])
  fields := #[]
  methods := #[]
  instanceTypes := #[]
  staticTypes := #[]
  resolved := Array.replicate 12 none
  statics := none }

def pool12 : Array CpInfo := pool [(1, .methodref 2 3), (0, .class_ 4), (0, .nameAndType 5 6), (0, u "java/lang/AbstractStringBuilder"), (0, u "<init>"), (0, u "(I)V"), (11, .class_ 20), (1, u "java/lang/String"), (3, .class_ 26), (1, u "java/lang/StringBuilder"), (0, u "append"), (16, .methodref 2 45), (0, .nameAndType 27 46), (0, u "([CII)Ljava/lang/AbstractStringBuilder;"), (90, .methodref 18 138), (0, .nameAndType 5 139), (0, u "(Ljava/lang/StringBuilder;)V"), (5, u "()V"), (10, u "()I"), (135, u "([CII)Ljava/lang/StringBuilder;"), (50, .methodref 2 344), (0, .nameAndType 345 156), (0, u "length"), (3, .class_ 350), (0, u "java/lang/Appendable"), (0, .class_ 352), (0, u "java/io/Serializable"), (0, .class_ 354), (0, u "java/lang/Comparable"), (0, .class_ 356), (0, u "java/lang/CharSequence"), (0, u "serialVersionUID"), (0, u "J"), (40, u "toString"), (0, u "()Ljava/lang/String;")] 21

def k12c0 : Code := { maxStack := 2, maxLocals := 1, code := jdk_67_method_1_code, exceptionTable := #[], attributes := #[] }
def k12m0 : Method := { name := "<init>", desc := "()V", sig := { parameters := [], returnType := none }, accessFlags := 1, code := some k12c0 }
def k12c1 : Code := { maxStack := 4, maxLocals := 4, code := jdk_67_method_12_code, exceptionTable := #[], attributes := #[] }
def k12m1 : Method := { name := "append", desc := "([CII)Ljava/lang/StringBuilder;", sig := { parameters := [(.array .char), .int, .int], returnType := some (.object "java/lang/StringBuilder") }, accessFlags := 1, code := some k12c1 }
def k12c2 : Code := { maxStack := 3, maxLocals := 1, code := jdk_67_method_42_code, exceptionTable := #[], attributes := #[] }
def k12m2 : Method := { name := "toString", desc := "()Ljava/lang/String;", sig := { parameters := [], returnType := some (.object "java/lang/String") }, accessFlags := 1, code := some k12c2 }
def k12c3 : Code := { maxStack := 1, maxLocals := 1, code := jdk_67_method_93_code, exceptionTable := #[], attributes := #[] }
def k12m3 : Method := { name := "length", desc := "()I", sig := { parameters := [], returnType := some .int }, accessFlags := 4161, code := some k12c3 }
/-- java/lang/StringBuilder -/
def k12 : Class := { plain "java/lang/StringBuilder" (some 9) with
  accessFlags := 49
  interfaces := #[2, 10, 11, 8]
  cf := some (fileOf pool12 24 #[] #[{ accessFlags := 1, nameIndex := 5, descriptorIndex := 145, attributes := #[] }, { accessFlags := 1, nameIndex := 27, descriptorIndex := 292, attributes := #[] }, { accessFlags := 1, nameIndex := 399, descriptorIndex := 400, attributes := #[] }, { accessFlags := 4161, nameIndex := 345, descriptorIndex := 156, attributes := #[] }] 49 2 #[349, 351, 353, 355] #[{ accessFlags := 24, nameIndex := 357, descriptorIndex := 358, attributes := #[] }])
  fields := #[{ name := "serialVersionUID", type := .long, accessFlags := 24, slot := 0, constantValue := 0 }]
  methods := #[k12m0, k12m1, k12m2, k12m3]
  instanceTypes := #[(.array .byte), .byte, .boolean, .int]
  staticTypes := #[.long]
  resolved := Array.replicate 422 none
  statics := none }

def pool13 : Array CpInfo := pool [(1, .class_ 2), (0, u "java/lang/constant/Constable"), (0, .class_ 4), (0, u "java/lang/Object")] 6

/-- java/lang/constant/Constable -/
def k13 : Class := { plain "java/lang/constant/Constable" (some 0) with
  accessFlags := 1537
  interfaces := #[]
  cf := some (fileOf pool13 1 #[] #[] 1537 3 #[] #[])
  fields := #[]
  methods := #[]
  instanceTypes := #[]
  staticTypes := #[]
  resolved := Array.replicate 11 none
  statics := none }

def pool14 : Array CpInfo := pool [(1, .class_ 2), (0, u "java/lang/constant/ConstantDesc"), (0, .class_ 4), (0, u "java/lang/Object")] 32

/-- java/lang/constant/ConstantDesc -/
def k14 : Class := { plain "java/lang/constant/ConstantDesc" (some 0) with
  accessFlags := 1537
  interfaces := #[]
  cf := some (fileOf pool14 1 #[] #[] 1537 3 #[] #[])
  fields := #[]
  methods := #[]
  instanceTypes := #[]
  staticTypes := #[]
  resolved := Array.replicate 37 none
  statics := none }

def pool15 : Array CpInfo := pool [(1, .methodref 2 3), (0, .class_ 4), (0, .nameAndType 5 6), (0, u "java/lang/Object"), (0, u "<init>"), (0, u "()V"), (2, .fieldref 10 11), (0, .class_ 12), (0, .nameAndType 13 14), (0, u "java/lang/String"), (0, u "value"), (0, u "[B"), (0, .fieldref 10 16), (0, .nameAndType 17 18), (0, u "coder"), (0, u "B"), (2, u "hash"), (0, u "I"), (2, u "hashIsZero"), (0, u "Z"), (11, .fieldref 10 39), (0, .nameAndType 40 26), (0, u "COMPACT_STRINGS"), (13, .methodref 55 56), (0, .class_ 57), (0, .nameAndType 58 59), (0, u "java/util/Arrays"), (0, u "copyOfRange"), (0, u "([BII)[B"), (47, .class_ 109), (1, u "java/lang/StringLatin1"), (32, u "()Z"), (191, u "()I"), (0, .methodref 10 336), (0, .nameAndType 17 337), (0, u "()B"), (2, u "()[B"), (22, u "([BI)C"), (27, u "(II)V"), (35, u "(I)C"), (61, .methodref 10 490), (0, .nameAndType 5 491), (0, u "(Ljava/lang/AbstractStringBuilder;Ljava/lang/Void;)V"), (0, .methodref 10 493), (0, .nameAndType 494 142), (0, u "isLatin1"), (0, .methodref 107 496), (0, .nameAndType 497 363), (0, u "charAt"), (3, u "checkIndex"), (4, .nameAndType 507 334), (0, u "length"), (41, .methodref 550 506), (0, .class_ 551), (0, u "java/lang/AbstractStringBuilder"), (0, .methodref 550 553), (0, .nameAndType 554 340), (0, u "getValue"), (20, .class_ 576), (0, u "java/lang/CharSequence"), (22, u "CASE_INSENSITIVE_ORDER"), (0, u "Ljava/util/Comparator;"), (446, .methodref 550 493), (5, .fieldref 1054 1055), (0, .class_ 1056), (0, .nameAndType 1057 1058), (0, u "jdk/internal/util/Preconditions"), (0, u "SIOOBE_FORMATTER"), (0, u "Ljava/util/function/BiFunction;"), (0, .methodref 1054 1060), (0, .nameAndType 501 1061), (0, u "(IILjava/util/function/BiFunction;)I"), (39, u "serialPersistentFields"), (0, u "[Ljava/io/ObjectStreamField;"), (0, .class_ 1104), (0, u "java/lang/String$CaseInsensitiveComparator"), (1, .class_ 1107), (0, u "java/io/Serializable"), (0, .class_ 1109), (0, u "java/lang/Comparable"), (0, .class_ 1111), (0, u "java/lang/constant/Constable"), (0, .class_ 1113), (0, u "java/lang/constant/ConstantDesc"), (2, u "serialVersionUID"), (0, u "J"), (3, u "REPL"), (0, u "C"), (2, u "LATIN1"), (1, u "UTF16"), (105, u "(Ljava/lang/StringBuilder;)V")] 217

def k15m0 : Method := { name := "<init>", desc := "()V", sig := { parameters := [], returnType := none }, accessFlags := 1, code := none }
def k15c1 : Code := { maxStack := 3, maxLocals := 2, code := jdk_42_method_53_code, exceptionTable := #[], attributes := #[] }
def k15m1 : Method := { name := "<init>", desc := "(Ljava/lang/StringBuilder;)V", sig := { parameters := [(.object "java/lang/StringBuilder")], returnType := none }, accessFlags := 1, code := some k15c1 }
def k15c2 : Code := { maxStack := 2, maxLocals := 1, code := jdk_42_method_54_code, exceptionTable := #[], attributes := #[] }
def k15m2 : Method := { name := "length", desc := "()I", sig := { parameters := [], returnType := some .int }, accessFlags := 1, code := some k15c2 }
def k15c3 : Code := { maxStack := 2, maxLocals := 2, code := jdk_42_method_56_code, exceptionTable := #[], attributes := #[] }
def k15m3 : Method := { name := "charAt", desc := "(I)C", sig := { parameters := [.int], returnType := some .char }, accessFlags := 1, code := some k15c3 }
def k15c4 : Code := { maxStack := 5, maxLocals := 5, code := jdk_42_method_150_code, exceptionTable := #[], attributes := #[] }
def k15m4 : Method := { name := "<init>", desc := "(Ljava/lang/AbstractStringBuilder;Ljava/lang/Void;)V", sig := { parameters := [(.object "java/lang/AbstractStringBuilder"), (.object "java/lang/Void")], returnType := none }, accessFlags := 0, code := some k15c4 }
def k15c5 : Code := { maxStack := 1, maxLocals := 1, code := jdk_42_method_152_code, exceptionTable := #[], attributes := #[] }
def k15m5 : Method := { name := "coder", desc := "()B", sig := { parameters := [], returnType := some .byte }, accessFlags := 0, code := some k15c5 }
def k15c6 : Code := { maxStack := 1, maxLocals := 1, code := jdk_42_method_154_code, exceptionTable := #[], attributes := #[] }
def k15m6 : Method := { name := "isLatin1", desc := "()Z", sig := { parameters := [], returnType := some .boolean }, accessFlags := 0, code := some k15c6 }
def k15c7 : Code := { maxStack := 3, maxLocals := 2, code := jdk_42_method_155_code, exceptionTable := #[], attributes := #[] }
def k15m7 : Method := { name := "checkIndex", desc := "(II)V", sig := { parameters := [.int, .int], returnType := none }, accessFlags := 8, code := some k15c7 }
/-- java/lang/String -/
def k15 : Class := { plain "java/lang/String" (some 0) with
  accessFlags := 49
  interfaces := #[10, 11, 8, 13, 14]
  cf := some (fileOf pool15 10 #[.nestMembers #[1103]] #[{ accessFlags := 1, nameIndex := 5, descriptorIndex := 6, attributes := #[] }, { accessFlags := 1, nameIndex := 5, descriptorIndex := 1233, attributes := #[] }, { accessFlags := 1, nameIndex := 507, descriptorIndex := 334, attributes := #[] }, { accessFlags := 1, nameIndex := 497, descriptorIndex := 427, attributes := #[] }, { accessFlags := 0, nameIndex := 5, descriptorIndex := 491, attributes := #[] }, { accessFlags := 0, nameIndex := 17, descriptorIndex := 337, attributes := #[] }, { accessFlags := 0, nameIndex := 494, descriptorIndex := 142, attributes := #[] }, { accessFlags := 8, nameIndex := 501, descriptorIndex := 391, attributes := #[] }] 49 2 #[1106, 1108, 575, 1110, 1112] #[{ accessFlags := 18, nameIndex := 13, descriptorIndex := 14, attributes := #[] }, { accessFlags := 18, nameIndex := 17, descriptorIndex := 18, attributes := #[] }, { accessFlags := 2, nameIndex := 21, descriptorIndex := 22, attributes := #[] }, { accessFlags := 2, nameIndex := 25, descriptorIndex := 26, attributes := #[] }, { accessFlags := 26, nameIndex := 1116, descriptorIndex := 1117, attributes := #[] }, { accessFlags := 24, nameIndex := 40, descriptorIndex := 26, attributes := #[] }, { accessFlags := 26, nameIndex := 1101, descriptorIndex := 1102, attributes := #[] }, { accessFlags := 26, nameIndex := 1121, descriptorIndex := 1122, attributes := #[] }, { accessFlags := 25, nameIndex := 599, descriptorIndex := 600, attributes := #[] }, { accessFlags := 24, nameIndex := 1125, descriptorIndex := 18, attributes := #[] }, { accessFlags := 24, nameIndex := 1127, descriptorIndex := 18, attributes := #[] }])
  fields := #[{ name := "value", type := (.array .byte), accessFlags := 18, slot := 0, constantValue := 0 }, { name := "coder", type := .byte, accessFlags := 18, slot := 1, constantValue := 0 }, { name := "hash", type := .int, accessFlags := 2, slot := 2, constantValue := 0 }, { name := "hashIsZero", type := .boolean, accessFlags := 2, slot := 3, constantValue := 0 }, { name := "serialVersionUID", type := .long, accessFlags := 26, slot := 0, constantValue := 0 }, { name := "COMPACT_STRINGS", type := .boolean, accessFlags := 24, slot := 1, constantValue := 0 }, { name := "serialPersistentFields", type := (.array (.object "java/io/ObjectStreamField")), accessFlags := 26, slot := 2, constantValue := 0 }, { name := "REPL", type := .char, accessFlags := 26, slot := 3, constantValue := 0 }, { name := "CASE_INSENSITIVE_ORDER", type := (.object "java/util/Comparator"), accessFlags := 25, slot := 4, constantValue := 0 }, { name := "LATIN1", type := .byte, accessFlags := 24, slot := 5, constantValue := 0 }, { name := "UTF16", type := .byte, accessFlags := 24, slot := 6, constantValue := 0 }]
  methods := #[k15m0, k15m1, k15m2, k15m3, k15m4, k15m5, k15m6, k15m7]
  instanceTypes := #[(.array .byte), .byte, .int, .boolean]
  staticTypes := #[.long, .boolean, (.array (.object "java/io/ObjectStreamField")), .char, (.object "java/util/Comparator"), .byte, .byte]
  resolved := Array.replicate 1451 none
  statics := some 0 }

def pool16 : Array CpInfo := pool [(2, .class_ 4), (1, u "java/lang/Object"), (0, u "<init>"), (0, u "()V"), (17, .class_ 26), (1, u "jdk/internal/util/Preconditions"), (6, u "checkIndex"), (13, u "checkFromToIndex"), (7, .class_ 56), (0, u "jdk/internal/util/Preconditions$4"), (57, .class_ 115), (0, u "jdk/internal/util/Preconditions$1"), (7, u "SIOOBE_FORMATTER"), (0, u "Ljava/util/function/BiFunction;"), (0, .class_ 126), (0, u "jdk/internal/util/Preconditions$2"), (3, u "AIOOBE_FORMATTER"), (0, .class_ 132), (0, u "jdk/internal/util/Preconditions$3"), (3, u "IOOBE_FORMATTER"), (41, u "(IILjava/util/function/BiFunction;)I"), (4, u "(IIILjava/util/function/BiFunction;)I")] 10

def k16m0 : Method := { name := "<init>", desc := "()V", sig := { parameters := [], returnType := none }, accessFlags := 1, code := none }
def k16c1 : Code := { maxStack := 3, maxLocals := 3, code := jdk_41_method_11_code, exceptionTable := #[], attributes := #[] }
def k16m1 : Method := { name := "checkIndex", desc := "(IILjava/util/function/BiFunction;)I", sig := { parameters := [.int, .int, (.object "java/util/function/BiFunction")], returnType := some .int }, accessFlags := 9, code := some k16c1 }
def k16c2 : Code := { maxStack := 4, maxLocals := 4, code := jdk_41_method_12_code, exceptionTable := #[], attributes := #[] }
def k16m2 : Method := { name := "checkFromToIndex", desc := "(IIILjava/util/function/BiFunction;)I", sig := { parameters := [.int, .int, .int, (.object "java/util/function/BiFunction")], returnType := some .int }, accessFlags := 9, code := some k16c2 }
/-- jdk/internal/util/Preconditions -/
def k16 : Class := { plain "jdk/internal/util/Preconditions" (some 0) with
  accessFlags := 33
  interfaces := #[]
  cf := some (fileOf pool16 24 #[.nestMembers #[55, 131, 125, 114]] #[{ accessFlags := 1, nameIndex := 5, descriptorIndex := 6, attributes := #[] }, { accessFlags := 9, nameIndex := 33, descriptorIndex := 178, attributes := #[] }, { accessFlags := 9, nameIndex := 47, descriptorIndex := 183, attributes := #[] }] 33 2 #[] #[{ accessFlags := 25, nameIndex := 123, descriptorIndex := 124, attributes := #[] }, { accessFlags := 25, nameIndex := 130, descriptorIndex := 124, attributes := #[] }, { accessFlags := 25, nameIndex := 136, descriptorIndex := 124, attributes := #[] }])
  fields := #[{ name := "SIOOBE_FORMATTER", type := (.object "java/util/function/BiFunction"), accessFlags := 25, slot := 0, constantValue := 0 }, { name := "AIOOBE_FORMATTER", type := (.object "java/util/function/BiFunction"), accessFlags := 25, slot := 1, constantValue := 0 }, { name := "IOOBE_FORMATTER", type := (.object "java/util/function/BiFunction"), accessFlags := 25, slot := 2, constantValue := 0 }]
  methods := #[k16m0, k16m1, k16m2]
  instanceTypes := #[]
  staticTypes := #[(.object "java/util/function/BiFunction"), (.object "java/util/function/BiFunction"), (.object "java/util/function/BiFunction")]
  resolved := Array.replicate 194 none
  statics := some 1 }

def pool17 : Array CpInfo := pool [(2, .class_ 4), (1, u "java/lang/Object"), (0, u "<init>"), (0, u "()V"), (7, .class_ 16), (1, u "java/util/Arrays"), (57, .class_ 76), (1, u "java/util/Arrays$NaturalOrder"), (36, .class_ 115), (1, u "java/util/Arrays$LegacyMergeSort"), (1, u "Z"), (21, u "copyOfRange"), (10, .methodref 151 152), (0, .class_ 153), (0, .nameAndType 154 155), (0, u "java/lang/System"), (0, u "arraycopy"), (0, u "(Ljava/lang/Object;ILjava/lang/Object;II)V"), (148, .methodref 305 306), (0, .class_ 307), (0, .nameAndType 308 309), (0, u "java/lang/Math"), (0, u "min"), (0, u "(II)I"), (29, .methodref 14 340), (0, .nameAndType 341 342), (0, u "copyOfRangeByte"), (0, u "([BII)[B"), (0, .methodref 14 344), (0, .nameAndType 345 346), (0, u "checkLength"), (0, u "(II)V"), (28, .class_ 376), (0, u "java/util/Arrays$ArrayList"), (68, u "$assertionsDisabled"), (269, u "MIN_ARRAY_SORT_GRAN"), (0, u "I"), (2, u "INSERTIONSORT_THRESHOLD"), (255, .class_ 976), (0, u "java/util/Arrays$ArrayItr")] 52

def k17m0 : Method := { name := "<init>", desc := "()V", sig := { parameters := [], returnType := none }, accessFlags := 2, code := none }
def k17c1 : Code := { maxStack := 4, maxLocals := 2, code := jdk_65_method_131_code, exceptionTable := #[], attributes := #[] }
def k17m1 : Method := { name := "checkLength", desc := "(II)V", sig := { parameters := [.int, .int], returnType := none }, accessFlags := 10, code := some k17c1 }
def k17c2 : Code := { maxStack := 3, maxLocals := 3, code := jdk_65_method_132_code, exceptionTable := #[], attributes := #[] }
def k17m2 : Method := { name := "copyOfRange", desc := "([BII)[B", sig := { parameters := [(.array .byte), .int, .int], returnType := some (.array .byte) }, accessFlags := 9, code := some k17c2 }
def k17c3 : Code := { maxStack := 6, maxLocals := 5, code := jdk_65_method_133_code, exceptionTable := #[], attributes := #[] }
def k17m3 : Method := { name := "copyOfRangeByte", desc := "([BII)[B", sig := { parameters := [(.array .byte), .int, .int], returnType := some (.array .byte) }, accessFlags := 10, code := some k17c3 }
/-- java/util/Arrays -/
def k17 : Class := { plain "java/util/Arrays" (some 0) with
  accessFlags := 49
  interfaces := #[]
  cf := some (fileOf pool17 14 #[.nestMembers #[975, 375, 113, 74]] #[{ accessFlags := 2, nameIndex := 5, descriptorIndex := 6, attributes := #[] }, { accessFlags := 10, nameIndex := 345, descriptorIndex := 346, attributes := #[] }, { accessFlags := 9, nameIndex := 139, descriptorIndex := 342, attributes := #[] }, { accessFlags := 10, nameIndex := 341, descriptorIndex := 342, attributes := #[] }] 49 2 #[] #[{ accessFlags := 26, nameIndex := 715, descriptorIndex := 716, attributes := #[] }, { accessFlags := 26, nameIndex := 719, descriptorIndex := 716, attributes := #[] }, { accessFlags := 4120, nameIndex := 445, descriptorIndex := 117, attributes := #[] }])
  fields := #[{ name := "MIN_ARRAY_SORT_GRAN", type := .int, accessFlags := 26, slot := 0, constantValue := 0 }, { name := "INSERTIONSORT_THRESHOLD", type := .int, accessFlags := 26, slot := 1, constantValue := 0 }, { name := "$assertionsDisabled", type := .boolean, accessFlags := 4120, slot := 2, constantValue := 0 }]
  methods := #[k17m0, k17m1, k17m2, k17m3]
  instanceTypes := #[]
  staticTypes := #[.int, .int, .boolean]
  resolved := Array.replicate 1029 none
  statics := none }

def pool18 : Array CpInfo := pool [(1, .class_ 2), (0, u "java/lang/Math"), (1, .class_ 6), (1, u "java/lang/Object"), (0, u "<init>"), (0, u "()V"), (89, .class_ 100), (1, u "java/lang/Math$RandomNumberGeneratorHolder"), (71, u "negativeZeroFloatBits"), (0, u "J"), (2, u "negativeZeroDoubleBits"), (24, u "min"), (43, u "$assertionsDisabled"), (0, u "Z"), (88, u "(II)I"), (2, u "twoToTheDoubleScaleDown"), (0, u "D"), (4, u "twoToTheDoubleScaleUp"), (9, u "E"), (3, u "PI"), (2, u "TAU"), (2, u "DEGREES_TO_RADIANS"), (0, u "RADIANS_TO_DEGREES")] 94

def k18m0 : Method := { name := "<init>", desc := "()V", sig := { parameters := [], returnType := none }, accessFlags := 2, code := none }
def k18c1 : Code := { maxStack := 2, maxLocals := 2, code := jdk_29_method_69_code, exceptionTable := #[], attributes := #[] }
def k18m1 : Method := { name := "min", desc := "(II)I", sig := { parameters := [.int, .int], returnType := some .int }, accessFlags := 9, code := some k18c1 }
/-- java/lang/Math -/
def k18 : Class := { plain "java/lang/Math" (some 0) with
  accessFlags := 49
  interfaces := #[]
  cf := some (fileOf pool18 1 #[.nestMembers #[98]] #[{ accessFlags := 2, nameIndex := 7, descriptorIndex := 8, attributes := #[] }, { accessFlags := 9, nameIndex := 201, descriptorIndex := 335, attributes := #[] }] 49 4 #[] #[{ accessFlags := 25, nameIndex := 354, descriptorIndex := 339, attributes := #[] }, { accessFlags := 25, nameIndex := 358, descriptorIndex := 339, attributes := #[] }, { accessFlags := 25, nameIndex := 361, descriptorIndex := 339, attributes := #[] }, { accessFlags := 26, nameIndex := 364, descriptorIndex := 339, attributes := #[] }, { accessFlags := 26, nameIndex := 365, descriptorIndex := 339, attributes := #[] }, { accessFlags := 26, nameIndex := 172, descriptorIndex := 173, attributes := #[] }, { accessFlags := 26, nameIndex := 176, descriptorIndex := 173, attributes := #[] }, { accessFlags := 8, nameIndex := 344, descriptorIndex := 339, attributes := #[] }, { accessFlags := 8, nameIndex := 338, descriptorIndex := 339, attributes := #[] }, { accessFlags := 4120, nameIndex := 245, descriptorIndex := 246, attributes := #[] }])
  fields := #[{ name := "E", type := .double, accessFlags := 25, slot := 0, constantValue := 0 }, { name := "PI", type := .double, accessFlags := 25, slot := 1, constantValue := 0 }, { name := "TAU", type := .double, accessFlags := 25, slot := 2, constantValue := 0 }, { name := "DEGREES_TO_RADIANS", type := .double, accessFlags := 26, slot := 3, constantValue := 0 }, { name := "RADIANS_TO_DEGREES", type := .double, accessFlags := 26, slot := 4, constantValue := 0 }, { name := "negativeZeroFloatBits", type := .long, accessFlags := 26, slot := 5, constantValue := 0 }, { name := "negativeZeroDoubleBits", type := .long, accessFlags := 26, slot := 6, constantValue := 0 }, { name := "twoToTheDoubleScaleUp", type := .double, accessFlags := 8, slot := 7, constantValue := 0 }, { name := "twoToTheDoubleScaleDown", type := .double, accessFlags := 8, slot := 8, constantValue := 0 }, { name := "$assertionsDisabled", type := .boolean, accessFlags := 4120, slot := 9, constantValue := 0 }]
  methods := #[k18m0, k18m1]
  instanceTypes := #[]
  staticTypes := #[.double, .double, .double, .double, .double, .long, .long, .double, .double, .boolean]
  resolved := Array.replicate 460 none
  statics := none }

def pool19 : Array CpInfo := pool [(2, .class_ 4), (1, u "java/lang/Object"), (0, u "<init>"), (0, u "()V"), (1, .class_ 10), (1, u "java/lang/System"), (0, u "allowSecurityManager"), (0, u "I"), (16, u "cons"), (0, u "Ljava/io/Console;"), (77, .class_ 110), (1, u "java/lang/System$CallersHolder"), (43, u "initialErrStream"), (0, u "Ljava/io/PrintStream;"), (19, u "security"), (0, u "Ljava/lang/SecurityManager;"), (31, .class_ 209), (0, u "java/lang/System$1"), (7, u "props"), (0, u "Ljava/util/Properties;"), (2, u "lineSeparator"), (0, u "Ljava/lang/String;"), (96, .class_ 321), (1, u "java/lang/System$LoggerFinder"), (5, .class_ 328), (0, u "java/lang/System$Logger"), (67, u "err"), (2, u "out"), (91, u "notSupportedJnuEncoding"), (15, u "in"), (17, u "initialIn"), (0, u "Ljava/io/InputStream;"), (35, u "bootLayer"), (0, u "Ljava/lang/ModuleLayer;"), (99, .class_ 664), (0, u "java/lang/System$2"), (9, u "NEVER"), (2, u "MAYBE"), (49, u "arraycopy"), (0, u "(Ljava/lang/Object;ILjava/lang/Object;II)V"), (72, .class_ 802), (0, u "java/lang/System$Logger$Level")] 31

def k19m0 : Method := { name := "<init>", desc := "()V", sig := { parameters := [], returnType := none }, accessFlags := 2, code := none }
def k19m1 : Method := { name := "arraycopy", desc := "(Ljava/lang/Object;ILjava/lang/Object;II)V", sig := { parameters := [(.object "java/lang/Object"), .int, (.object "java/lang/Object"), .int, .int], returnType := none }, accessFlags := 265, code := none }
/-- java/lang/System -/
def k19 : Class := { plain "java/lang/System" (some 0) with
  accessFlags := 49
  interfaces := #[]
  cf := some (fileOf pool19 8 #[.nestMembers #[319, 327, 801, 108, 663, 208]] #[{ accessFlags := 2, nameIndex := 5, descriptorIndex := 6, attributes := #[] }, { accessFlags := 265, nameIndex := 727, descriptorIndex := 728, attributes := #[] }] 49 2 #[] #[{ accessFlags := 25, nameIndex := 507, descriptorIndex := 526, attributes := #[] }, { accessFlags := 25, nameIndex := 399, descriptorIndex := 155, attributes := #[] }, { accessFlags := 25, nameIndex := 396, descriptorIndex := 155, attributes := #[] }, { accessFlags := 10, nameIndex := 525, descriptorIndex := 526, attributes := #[] }, { accessFlags := 26, nameIndex := 674, descriptorIndex := 12, attributes := #[] }, { accessFlags := 26, nameIndex := 677, descriptorIndex := 12, attributes := #[] }, { accessFlags := 10, nameIndex := 11, descriptorIndex := 12, attributes := #[] }, { accessFlags := 74, nameIndex := 175, descriptorIndex := 176, attributes := #[] }, { accessFlags := 10, nameIndex := 491, descriptorIndex := 222, attributes := #[] }, { accessFlags := 74, nameIndex := 29, descriptorIndex := 30, attributes := #[] }, { accessFlags := 74, nameIndex := 154, descriptorIndex := 155, attributes := #[] }, { accessFlags := 10, nameIndex := 217, descriptorIndex := 218, attributes := #[] }, { accessFlags := 10, nameIndex := 221, descriptorIndex := 222, attributes := #[] }, { accessFlags := 8, nameIndex := 562, descriptorIndex := 563, attributes := #[] }])
  fields := #[{ name := "in", type := (.object "java/io/InputStream"), accessFlags := 25, slot := 0, constantValue := 0 }, { name := "out", type := (.object "java/io/PrintStream"), accessFlags := 25, slot := 1, constantValue := 0 }, { name := "err", type := (.object "java/io/PrintStream"), accessFlags := 25, slot := 2, constantValue := 0 }, { name := "initialIn", type := (.object "java/io/InputStream"), accessFlags := 10, slot := 3, constantValue := 0 }, { name := "NEVER", type := .int, accessFlags := 26, slot := 4, constantValue := 0 }, { name := "MAYBE", type := .int, accessFlags := 26, slot := 5, constantValue := 0 }, { name := "allowSecurityManager", type := .int, accessFlags := 10, slot := 6, constantValue := 0 }, { name := "security", type := (.object "java/lang/SecurityManager"), accessFlags := 74, slot := 7, constantValue := 0 }, { name := "notSupportedJnuEncoding", type := (.object "java/lang/String"), accessFlags := 10, slot := 8, constantValue := 0 }, { name := "cons", type := (.object "java/io/Console"), accessFlags := 74, slot := 9, constantValue := 0 }, { name := "initialErrStream", type := (.object "java/io/PrintStream"), accessFlags := 74, slot := 10, constantValue := 0 }, { name := "props", type := (.object "java/util/Properties"), accessFlags := 10, slot := 11, constantValue := 0 }, { name := "lineSeparator", type := (.object "java/lang/String"), accessFlags := 10, slot := 12, constantValue := 0 }, { name := "bootLayer", type := (.object "java/lang/ModuleLayer"), accessFlags := 8, slot := 13, constantValue := 0 }]
  methods := #[k19m0, k19m1]
  instanceTypes := #[]
  staticTypes := #[(.object "java/io/InputStream"), (.object "java/io/PrintStream"), (.object "java/io/PrintStream"), (.object "java/io/InputStream"), .int, .int, .int, (.object "java/lang/SecurityManager"), (.object "java/lang/String"), (.object "java/io/Console"), (.object "java/io/PrintStream"), (.object "java/util/Properties"), (.object "java/lang/String"), (.object "java/lang/ModuleLayer")]
  resolved := Array.replicate 834 none
  statics := none }

def pool20 : Array CpInfo := pool [(2, .class_ 4), (1, u "java/lang/Object"), (0, u "<init>"), (0, u "()V"), (0, .methodref 8 9), (0, .class_ 10), (0, .nameAndType 11 12), (0, u "com/example/hradcany/hradcany/input/OneLine"), (0, u "written"), (0, u "(Ljava/lang/String;Z)Ljava/lang/String;"), (0, .methodref 14 15), (0, .class_ 16), (0, .nameAndType 17 18), (0, u "java/lang/String"), (0, u "length"), (0, u "()I"), (0, .methodref 8 20), (0, .nameAndType 21 22), (0, u "escapes"), (0, u "(Ljava/lang/String;IZ)Z"), (0, .class_ 24), (0, u "java/lang/StringBuilder"), (7, .methodref 14 33), (0, .nameAndType 34 35), (0, u "charAt"), (0, u "(I)C"), (16, .methodref 23 53), (0, .nameAndType 54 55), (0, u "toString"), (0, u "()Ljava/lang/String;"), (17, u "LINE_SEPARATOR"), (0, u "C"), (2, u "PARAGRAPH_SEPARATOR"), (1, u "ESCAPED_WIDTH"), (0, u "I"), (3, u "of"), (0, u "(Ljava/lang/String;)Ljava/lang/String;")] 6

def k20m0 : Method := { name := "<init>", desc := "()V", sig := { parameters := [], returnType := none }, accessFlags := 2, code := none }
def k20c1 : Code := { maxStack := 2, maxLocals := 1, code := prog_19_method_2_code, exceptionTable := #[], attributes := #[] }
def k20m1 : Method := { name := "of", desc := "(Ljava/lang/String;)Ljava/lang/String;", sig := { parameters := [(.object "java/lang/String")], returnType := some (.object "java/lang/String") }, accessFlags := 9, code := some k20c1 }
def k20c2 : Code := { maxStack := 4, maxLocals := 8, code := prog_19_method_4_code, exceptionTable := #[], attributes := #[] }
def k20m2 : Method := { name := "written", desc := "(Ljava/lang/String;Z)Ljava/lang/String;", sig := { parameters := [(.object "java/lang/String"), .boolean], returnType := some (.object "java/lang/String") }, accessFlags := 10, code := some k20c2 }
def k20c3 : Code := { maxStack := 2, maxLocals := 4, code := prog_19_method_6_code, exceptionTable := #[], attributes := #[] }
def k20m3 : Method := { name := "escapes", desc := "(Ljava/lang/String;IZ)Z", sig := { parameters := [(.object "java/lang/String"), .int, .boolean], returnType := some .boolean }, accessFlags := 10, code := some k20c3 }
/-- com/example/hradcany/hradcany/input/OneLine -/
def k20 : Class := { plain "com/example/hradcany/hradcany/input/OneLine" (some 0) with
  accessFlags := 33
  interfaces := #[]
  cf := some (fileOf pool20 8 #[] #[{ accessFlags := 2, nameIndex := 5, descriptorIndex := 6, attributes := #[] }, { accessFlags := 9, nameIndex := 84, descriptorIndex := 85, attributes := #[] }, { accessFlags := 10, nameIndex := 11, descriptorIndex := 12, attributes := #[] }, { accessFlags := 10, nameIndex := 21, descriptorIndex := 22, attributes := #[] }] 33 2 #[] #[{ accessFlags := 26, nameIndex := 73, descriptorIndex := 74, attributes := #[] }, { accessFlags := 26, nameIndex := 77, descriptorIndex := 74, attributes := #[] }, { accessFlags := 26, nameIndex := 79, descriptorIndex := 80, attributes := #[] }])
  fields := #[{ name := "LINE_SEPARATOR", type := .char, accessFlags := 26, slot := 0, constantValue := 0 }, { name := "PARAGRAPH_SEPARATOR", type := .char, accessFlags := 26, slot := 1, constantValue := 0 }, { name := "ESCAPED_WIDTH", type := .int, accessFlags := 26, slot := 2, constantValue := 0 }]
  methods := #[k20m0, k20m1, k20m2, k20m3]
  instanceTypes := #[]
  staticTypes := #[.char, .char, .int]
  resolved := Array.replicate 92 none
  statics := none }

def pool21 : Array CpInfo := pool [(1, .fieldref 2 3), (0, .class_ 4), (0, .nameAndType 5 6), (0, u "java/util/Optional"), (0, u "EMPTY"), (0, u "Ljava/util/Optional;"), (0, .methodref 8 9), (0, .class_ 10), (0, .nameAndType 11 12), (0, u "java/lang/Object"), (0, u "<init>"), (0, u "()V"), (0, .fieldref 2 14), (0, .nameAndType 15 16), (0, u "value"), (0, u "Ljava/lang/Object;"), (0, .methodref 18 19), (0, .class_ 20), (0, .nameAndType 21 22), (0, u "java/util/Objects"), (0, u "requireNonNull"), (0, u "(Ljava/lang/Object;)Ljava/lang/Object;"), (0, .methodref 2 24), (0, .nameAndType 11 25), (0, u "(Ljava/lang/Object;)V"), (29, u "empty"), (0, u "()Ljava/util/Optional;"), (8, u "(Ljava/lang/Object;)Ljava/util/Optional;"), (16, u "of"), (82, u "orElse")] 21

def k21c0 : Code := { maxStack := 1, maxLocals := 1, code := jdk_32_method_1_code, exceptionTable := #[], attributes := #[] }
def k21m0 : Method := { name := "empty", desc := "()Ljava/util/Optional;", sig := { parameters := [], returnType := some (.object "java/util/Optional") }, accessFlags := 9, code := some k21c0 }
def k21c1 : Code := { maxStack := 2, maxLocals := 2, code := jdk_32_method_2_code, exceptionTable := #[], attributes := #[] }
def k21m1 : Method := { name := "<init>", desc := "(Ljava/lang/Object;)V", sig := { parameters := [(.object "java/lang/Object")], returnType := none }, accessFlags := 2, code := some k21c1 }
def k21c2 : Code := { maxStack := 3, maxLocals := 1, code := jdk_32_method_3_code, exceptionTable := #[], attributes := #[] }
def k21m2 : Method := { name := "of", desc := "(Ljava/lang/Object;)Ljava/util/Optional;", sig := { parameters := [(.object "java/lang/Object")], returnType := some (.object "java/util/Optional") }, accessFlags := 9, code := some k21c2 }
def k21c3 : Code := { maxStack := 1, maxLocals := 2, code := jdk_32_method_15_code, exceptionTable := #[], attributes := #[] }
def k21m3 : Method := { name := "orElse", desc := "(Ljava/lang/Object;)Ljava/lang/Object;", sig := { parameters := [(.object "java/lang/Object")], returnType := some (.object "java/lang/Object") }, accessFlags := 1, code := some k21c3 }
/-- java/util/Optional -/
def k21 : Class := { plain "java/util/Optional" (some 0) with
  accessFlags := 49
  interfaces := #[]
  cf := some (fileOf pool21 2 #[] #[{ accessFlags := 9, nameIndex := 55, descriptorIndex := 56, attributes := #[] }, { accessFlags := 2, nameIndex := 11, descriptorIndex := 25, attributes := #[] }, { accessFlags := 9, nameIndex := 82, descriptorIndex := 65, attributes := #[] }, { accessFlags := 1, nameIndex := 165, descriptorIndex := 22, attributes := #[] }] 49 8 #[] #[{ accessFlags := 26, nameIndex := 5, descriptorIndex := 6, attributes := #[] }, { accessFlags := 18, nameIndex := 15, descriptorIndex := 16, attributes := #[] }])
  fields := #[{ name := "EMPTY", type := (.object "java/util/Optional"), accessFlags := 26, slot := 0, constantValue := 0 }, { name := "value", type := (.object "java/lang/Object"), accessFlags := 18, slot := 0, constantValue := 0 }]
  methods := #[k21m0, k21m1, k21m2, k21m3]
  instanceTypes := #[(.object "java/lang/Object")]
  staticTypes := #[(.object "java/util/Optional")]
  resolved := Array.replicate 187 none
  statics := some 2 }

def pool22 : Array CpInfo := pool [(2, .class_ 4), (1, u "java/lang/Object"), (0, u "<init>"), (0, u "()V"), (35, .class_ 44), (1, u "java/util/Objects"), (0, u "requireNonNull"), (0, u "(Ljava/lang/Object;)Ljava/lang/Object;")] 137

def k22m0 : Method := { name := "<init>", desc := "()V", sig := { parameters := [], returnType := none }, accessFlags := 2, code := none }
def k22c1 : Code := { maxStack := 2, maxLocals := 1, code := jdk_31_method_10_code, exceptionTable := #[], attributes := #[] }
def k22m1 : Method := { name := "requireNonNull", desc := "(Ljava/lang/Object;)Ljava/lang/Object;", sig := { parameters := [(.object "java/lang/Object")], returnType := some (.object "java/lang/Object") }, accessFlags := 9, code := some k22c1 }
/-- java/util/Objects -/
def k22 : Class := { plain "java/util/Objects" (some 0) with
  accessFlags := 49
  interfaces := #[]
  cf := some (fileOf pool22 42 #[] #[{ accessFlags := 2, nameIndex := 5, descriptorIndex := 6, attributes := #[] }, { accessFlags := 9, nameIndex := 45, descriptorIndex := 46, attributes := #[] }] 49 2 #[] #[])
  fields := #[]
  methods := #[k22m0, k22m1]
  instanceTypes := #[]
  staticTypes := #[]
  resolved := Array.replicate 184 none
  statics := none }

def pool23 : Array CpInfo := pool [(1, .class_ 2), (0, u "java/lang/String"), (1, .class_ 6), (1, u "java/lang/Object"), (0, u "<init>"), (0, u "()V"), (0, .methodref 1 10), (0, .nameAndType 11 12), (0, u "checkIndex"), (0, u "(II)V"), (1, .class_ 16), (1, u "java/lang/StringLatin1"), (36, u "([BI)C"), (36, u "canEncode"), (14, u "(C)Z"), (15, u "$assertionsDisabled"), (0, u "Z"), (98, .class_ 223), (1, u "java/lang/StringLatin1$LinesSpliterator"), (28, u "charAt"), (137, .class_ 391), (0, u "java/lang/StringLatin1$CharsSpliterator")] 3

def k23m0 : Method := { name := "<init>", desc := "()V", sig := { parameters := [], returnType := none }, accessFlags := 0, code := none }
def k23c1 : Code := { maxStack := 2, maxLocals := 2, code := jdk_43_method_2_code, exceptionTable := #[], attributes := #[] }
def k23m1 : Method := { name := "charAt", desc := "([BI)C", sig := { parameters := [(.array .byte), .int], returnType := some .char }, accessFlags := 9, code := some k23c1 }
def k23c2 : Code := { maxStack := 2, maxLocals := 1, code := jdk_43_method_3_code, exceptionTable := #[], attributes := #[] }
def k23m2 : Method := { name := "canEncode", desc := "(C)Z", sig := { parameters := [.char], returnType := some .boolean }, accessFlags := 9, code := some k23c2 }
/-- java/lang/StringLatin1 -/
def k23 : Class := { plain "java/lang/StringLatin1" (some 0) with
  accessFlags := 48
  interfaces := #[]
  cf := some (fileOf pool23 14 #[.nestMembers #[390, 221]] #[{ accessFlags := 0, nameIndex := 7, descriptorIndex := 8, attributes := #[] }, { accessFlags := 9, nameIndex := 252, descriptorIndex := 53, attributes := #[] }, { accessFlags := 9, nameIndex := 90, descriptorIndex := 105, attributes := #[] }] 48 4 #[] #[{ accessFlags := 4120, nameIndex := 121, descriptorIndex := 122, attributes := #[] }])
  fields := #[{ name := "$assertionsDisabled", type := .boolean, accessFlags := 4120, slot := 0, constantValue := 0 }]
  methods := #[k23m0, k23m1, k23m2]
  instanceTypes := #[]
  staticTypes := #[.boolean]
  resolved := Array.replicate 395 none
  statics := none }

def pool24 : Array CpInfo := pool [(9, u "<init>"), (6, .class_ 18), (1, u "java/lang/Object"), (0, u "()V"), (1, .class_ 23), (1, u "jdk/internal/util/ArraysSupport"), (0, u "LOG2_ARRAY_LONG_INDEX_SCALE"), (0, u "I"), (2, u "U"), (0, u "Ljdk/internal/misc/Unsafe;"), (8, u "BIG_ENDIAN"), (0, u "Z"), (8, u "LOG2_BYTE_BIT_SIZE"), (4, u "LOG2_ARRAY_INT_INDEX_SCALE"), (54, u "JLA"), (0, u "Ljdk/internal/access/JavaLangAccess;"), (11, u "LOG2_ARRAY_BOOLEAN_INDEX_SCALE"), (9, u "LOG2_ARRAY_BYTE_INDEX_SCALE"), (5, u "LOG2_ARRAY_CHAR_INDEX_SCALE"), (5, u "LOG2_ARRAY_SHORT_INDEX_SCALE"), (18, u "LOG2_ARRAY_FLOAT_INDEX_SCALE"), (24, u "LOG2_ARRAY_DOUBLE_INDEX_SCALE"), (89, u "T_BOOLEAN"), (2, u "T_CHAR"), (1, u "T_FLOAT"), (1, u "T_DOUBLE"), (1, u "T_BYTE"), (1, u "T_SHORT"), (1, u "T_INT"), (1, u "T_LONG"), (1, u "SOFT_MAX_ARRAY_LENGTH")] 83

def k24m0 : Method := { name := "<init>", desc := "()V", sig := { parameters := [], returnType := none }, accessFlags := 2, code := none }
/-- jdk/internal/util/ArraysSupport -/
def k24 : Class := { plain "jdk/internal/util/ArraysSupport" (some 0) with
  accessFlags := 33
  interfaces := #[]
  cf := some (fileOf pool24 21 #[] #[{ accessFlags := 2, nameIndex := 9, descriptorIndex := 19, attributes := #[] }] 33 16 #[] #[{ accessFlags := 24, nameIndex := 28, descriptorIndex := 29, attributes := #[] }, { accessFlags := 26, nameIndex := 38, descriptorIndex := 39, attributes := #[] }, { accessFlags := 25, nameIndex := 121, descriptorIndex := 25, attributes := #[] }, { accessFlags := 25, nameIndex := 131, descriptorIndex := 25, attributes := #[] }, { accessFlags := 25, nameIndex := 137, descriptorIndex := 25, attributes := #[] }, { accessFlags := 25, nameIndex := 143, descriptorIndex := 25, attributes := #[] }, { accessFlags := 25, nameIndex := 53, descriptorIndex := 25, attributes := #[] }, { accessFlags := 25, nameIndex := 24, descriptorIndex := 25, attributes := #[] }, { accessFlags := 25, nameIndex := 162, descriptorIndex := 25, attributes := #[] }, { accessFlags := 25, nameIndex := 187, descriptorIndex := 25, attributes := #[] }, { accessFlags := 26, nameIndex := 48, descriptorIndex := 25, attributes := #[] }, { accessFlags := 25, nameIndex := 277, descriptorIndex := 25, attributes := #[] }, { accessFlags := 25, nameIndex := 280, descriptorIndex := 25, attributes := #[] }, { accessFlags := 25, nameIndex := 282, descriptorIndex := 25, attributes := #[] }, { accessFlags := 25, nameIndex := 284, descriptorIndex := 25, attributes := #[] }, { accessFlags := 25, nameIndex := 286, descriptorIndex := 25, attributes := #[] }, { accessFlags := 25, nameIndex := 288, descriptorIndex := 25, attributes := #[] }, { accessFlags := 25, nameIndex := 290, descriptorIndex := 25, attributes := #[] }, { accessFlags := 25, nameIndex := 292, descriptorIndex := 25, attributes := #[] }, { accessFlags := 26, nameIndex := 108, descriptorIndex := 109, attributes := #[] }, { accessFlags := 25, nameIndex := 294, descriptorIndex := 25, attributes := #[] }])
  fields := #[{ name := "U", type := (.object "jdk/internal/misc/Unsafe"), accessFlags := 24, slot := 0, constantValue := 0 }, { name := "BIG_ENDIAN", type := .boolean, accessFlags := 26, slot := 1, constantValue := 0 }, { name := "LOG2_ARRAY_BOOLEAN_INDEX_SCALE", type := .int, accessFlags := 25, slot := 2, constantValue := 0 }, { name := "LOG2_ARRAY_BYTE_INDEX_SCALE", type := .int, accessFlags := 25, slot := 3, constantValue := 0 }, { name := "LOG2_ARRAY_CHAR_INDEX_SCALE", type := .int, accessFlags := 25, slot := 4, constantValue := 0 }, { name := "LOG2_ARRAY_SHORT_INDEX_SCALE", type := .int, accessFlags := 25, slot := 5, constantValue := 0 }, { name := "LOG2_ARRAY_INT_INDEX_SCALE", type := .int, accessFlags := 25, slot := 6, constantValue := 0 }, { name := "LOG2_ARRAY_LONG_INDEX_SCALE", type := .int, accessFlags := 25, slot := 7, constantValue := 0 }, { name := "LOG2_ARRAY_FLOAT_INDEX_SCALE", type := .int, accessFlags := 25, slot := 8, constantValue := 0 }, { name := "LOG2_ARRAY_DOUBLE_INDEX_SCALE", type := .int, accessFlags := 25, slot := 9, constantValue := 0 }, { name := "LOG2_BYTE_BIT_SIZE", type := .int, accessFlags := 26, slot := 10, constantValue := 0 }, { name := "T_BOOLEAN", type := .int, accessFlags := 25, slot := 11, constantValue := 0 }, { name := "T_CHAR", type := .int, accessFlags := 25, slot := 12, constantValue := 0 }, { name := "T_FLOAT", type := .int, accessFlags := 25, slot := 13, constantValue := 0 }, { name := "T_DOUBLE", type := .int, accessFlags := 25, slot := 14, constantValue := 0 }, { name := "T_BYTE", type := .int, accessFlags := 25, slot := 15, constantValue := 0 }, { name := "T_SHORT", type := .int, accessFlags := 25, slot := 16, constantValue := 0 }, { name := "T_INT", type := .int, accessFlags := 25, slot := 17, constantValue := 0 }, { name := "T_LONG", type := .int, accessFlags := 25, slot := 18, constantValue := 0 }, { name := "JLA", type := (.object "jdk/internal/access/JavaLangAccess"), accessFlags := 26, slot := 19, constantValue := 0 }, { name := "SOFT_MAX_ARRAY_LENGTH", type := .int, accessFlags := 25, slot := 20, constantValue := 0 }]
  methods := #[k24m0]
  instanceTypes := #[]
  staticTypes := #[(.object "jdk/internal/misc/Unsafe"), .boolean, .int, .int, .int, .int, .int, .int, .int, .int, .int, .int, .int, .int, .int, .int, .int, .int, .int, (.object "jdk/internal/access/JavaLangAccess"), .int]
  resolved := Array.replicate 378 none
  statics := none }

def pool25 : Array CpInfo := pool [(1, u "java/lang/Cloneable"), (0, .class_ 1), (0, u "java/lang/Object"), (0, .class_ 3)] 3

/-- java/lang/Cloneable -/
def k25 : Class := { plain "java/lang/Cloneable" (some 0) with
  accessFlags := 1537
  interfaces := #[]
  cf := some (fileOf pool25 2 #[] #[] 1537 4 #[] #[])
  fields := #[]
  methods := #[]
  instanceTypes := #[]
  staticTypes := #[]
  resolved := Array.replicate 8 none
  statics := none }

/-- the primitive byte -/
def k26 : Class := { plain "byte" none with kind := .primitive 'B', accessFlags := 0x411 }
/-- [B -/
def k27 : Class := { plain "[B" (some 0) with kind := .array 26 .byte, interfaces := #[25, 10], accessFlags := 1041 }

/-- the primitive char -/
def k28 : Class := { plain "char" none with kind := .primitive 'C', accessFlags := 0x411 }
/-- [C -/
def k29 : Class := { plain "[C" (some 0) with kind := .array 28 .char, interfaces := #[25, 10], accessFlags := 1041 }

/-- the primitive int -/
def k30 : Class := { plain "int" none with kind := .primitive 'I', accessFlags := 0x411 }
/-- [I -/
def k31 : Class := { plain "[I" (some 0) with kind := .array 30 .int, interfaces := #[25, 10], accessFlags := 1041 }

def heap : Heap := #[{ cls := 15, slots := #[.long 0, .int 1, .null, .int 0, .null, .int 0, .int 0], vm := .statics 15 },
  { cls := 16, slots := #[.null, .null, .null], vm := .statics 16 },
  { cls := 21, slots := #[.ref 3], vm := .statics 21 },
  { cls := 21, slots := #[.null], vm := .none }]
def classes : Array Class := #[k0, k1, k2, k3, k4, k5, k6, k7, k8, k9, k10, k11, k12, k13, k14, k15, k16, k17, k18, k19, k20, k21, k22, k23, k24, k25, k26, k27, k28, k29, k30, k31]
def interned : List (Array UInt16 × Addr) := []
def slotsUsed : Nat := 12
def theMethod : MethodId := ⟨1, 1⟩
def args0 : Array Value := #[.int 1234567, .int 1, .int 2, .int 2, .int 1, .int 3]
def aboutOver (below : List Frame) : State where
  vm := { classes := classes, interned := interned.toArray }
  heap := heap
  slotsUsed := slotsUsed
  threads := #[{ frames := .invoking theMethod args0 :: below }]
def below0 : List Frame := [.native { method := ⟨0, 0⟩, args := #[] }]
def about1 : State := aboutOver below0
def p0 : Program := .bare "" "" ""
def e0 : Env := launch0.env 0 0 0
theorem w_frames : about1.frames = Frame.invoking theMethod args0 :: below0 := rfl
set_option maxRecDepth 65536 in
theorem w_args : argsFit about1.vm theMethod args0 = true := by decide +kernel
set_option maxRecDepth 65536 in
theorem w_heap : heapFits about1 = true := by decide +kernel
set_option maxRecDepth 65536 in
theorem w_runnable : about1.curStatus? = some .runnable := by decide +kernel
set_option maxRecDepth 65536 in
theorem w_alone : about1.alone = true := by decide +kernel
set_option maxRecDepth 65536 in
theorem w_named : about1.methodNamed? x = some theMethod := by decide +kernel
set_option maxRecDepth 65536 in
theorem w_hears : about1.hears theMethod below0 = true := by decide +kernel
set_option maxRecDepth 65536 in
theorem w_ripe : about1.ripe theMethod args0 below0 = true := by decide +kernel
theorem w_running : about1.status = .running := rfl
set_option maxRecDepth 65536 in
theorem w_room : about1.hasRoom e0.platform room_1 = true :=
  launch0.hasRoom_least _ room_1 (by decide +kernel) (by decide +kernel) (by decide +kernel) (by decide +kernel) (by decide +kernel) (by decide +kernel)
theorem allAtoms_all (ts : List Jvm.Cond) (a : Array Jvm.Value) (st : Jvm.State) : (allAtoms ts).before a st = ts.all (fun c => c.before a st) := by
  induction ts with
  | nil => rfl
  | cons c t ih =>
    show (Jvm.Cond.and c (allAtoms t)).before a st = _
    rw [Jvm.Cond.before_and, ih, List.all_cons]
def words1 : List Jvm.Cond := Jvm.Cond.code x code maxLocals ret :: tables_1
/-- a 'code' word, met by the world's own term for the bytes: nothing is compared byte by byte -/
theorem code_word {y : MethodName} {bytes : ByteArray} {mx : Nat} {rt : Option FieldType} {a : Array Value} {s : State} {m : MethodId} {meth : Method} {c : Code} (h1 : s.methodNamed? y = some m) (h2 : s.vm.method? m = some meth) (h3 : meth.code = some c) (h4 : c.code = bytes)
    (h5 : (c.maxLocals == mx && c.exceptionTable.isEmpty && decide (c.maxStack ≤ mostOperands) && decide (meth.sig.returnType = rt) && !meth.locks && decide (parseMethodDescriptor y.desc = some meth.sig)) = true) : (Jvm.Cond.code y bytes mx rt).before a s = true := by
  simp only [Bool.and_eq_true, beq_iff_eq, Bool.not_eq_true', decide_eq_true_eq] at h5
  obtain ⟨⟨⟨⟨⟨g1, g2⟩, g3⟩, g4⟩, g5⟩, g6⟩ := h5
  simp [Cond.before, Cond.holds, Cond.value, h1, h2, h3, h4, g1, g2, g3, g4, g5, g6]
def isCode : Jvm.Cond → Bool
  | .code _ _ _ _ => true
  | _ => false
theorem all_split {L : List Jvm.Cond} {P : Jvm.Cond → Bool} (h1 : L.all (fun c => isCode c || P c) = true) (h2 : ∀ c ∈ L.filter isCode, P c = true) : L.all P = true := by
  refine List.all_eq_true.mpr fun c hc => ?_
  have h := List.all_eq_true.mp h1 c hc
  rcases Bool.eq_false_or_eq_true (isCode c) with hi | hi
  · exact h2 c (List.mem_filter.mpr ⟨hc, hi⟩)
  · simpa [hi] using h
set_option maxRecDepth 65536 in
theorem w_c0 : (Jvm.Cond.code x code maxLocals ret).before args0 about1 = true := code_word (m := ⟨1, 1⟩) (meth := k1m1) (c := k1c1) (by decide +kernel) rfl rfl rfl (by decide +kernel)
set_option maxRecDepth 65536 in
theorem w_c1 : (Jvm.Cond.code ({ cls := "com/example/hradcany/hradcany/authzen/AnswerTextWrite122PinLaw", name := "draw", desc := "(II)C" } : Jvm.MethodName) method_3_code (2 : Nat) (Option.some Jvm.ClassFile.FieldType.char)).before args0 about1 = true := code_word (m := ⟨1, 2⟩) (meth := k1m2) (c := k1c2) (by decide +kernel) rfl rfl rfl (by decide +kernel)
set_option maxRecDepth 65536 in
theorem w_c2 : (Jvm.Cond.code ({ cls := "com/example/hradcany/hradcany/authzen/AnswerText", name := "<init>", desc := "(I)V" } : Jvm.MethodName) prog_1_method_1_code (2 : Nat) (Option.none : Option Jvm.ClassFile.FieldType)).before args0 about1 = true := code_word (m := ⟨7, 0⟩) (meth := k7m0) (c := k7c0) (by decide +kernel) rfl rfl rfl (by decide +kernel)
set_option maxRecDepth 65536 in
theorem w_c3 : (Jvm.Cond.code ({ cls := "java/io/Writer", name := "<init>", desc := "()V" } : Jvm.MethodName) jdk_2052_method_2_code (1 : Nat) (Option.none : Option Jvm.ClassFile.FieldType)).before args0 about1 = true := code_word (m := ⟨6, 0⟩) (meth := k6m0) (c := k6c0) (by decide +kernel) rfl rfl rfl (by decide +kernel)
set_option maxRecDepth 65536 in
theorem w_c4 : (Jvm.Cond.code ({ cls := "java/lang/Object", name := "<init>", desc := "()V" } : Jvm.MethodName) object_method_1_code (1 : Nat) (Option.none : Option Jvm.ClassFile.FieldType)).before args0 about1 = true := code_word (m := ⟨0, 0⟩) (meth := k0m0) (c := k0c0) (by decide +kernel) rfl rfl rfl (by decide +kernel)
set_option maxRecDepth 65536 in
theorem w_c5 : (Jvm.Cond.code ({ cls := "java/lang/StringBuilder", name := "<init>", desc := "()V" } : Jvm.MethodName) jdk_67_method_1_code (1 : Nat) (Option.none : Option Jvm.ClassFile.FieldType)).before args0 about1 = true := code_word (m := ⟨12, 0⟩) (meth := k12m0) (c := k12c0) (by decide +kernel) rfl rfl rfl (by decide +kernel)
set_option maxRecDepth 65536 in
theorem w_c6 : (Jvm.Cond.code ({ cls := "java/lang/AbstractStringBuilder", name := "<init>", desc := "(I)V" } : Jvm.MethodName) jdk_68_method_2_code (2 : Nat) (Option.none : Option Jvm.ClassFile.FieldType)).before args0 about1 = true := code_word (m := ⟨9, 1⟩) (meth := k9m1) (c := k9c1) (by decide +kernel) rfl rfl rfl (by decide +kernel)
set_option maxRecDepth 65536 in
theorem w_c7 : (Jvm.Cond.code ({ cls := "com/example/hradcany/hradcany/authzen/AnswerText", name := "write", desc := "([CII)V" } : Jvm.MethodName) prog_1_method_2_code (4 : Nat) (Option.none : Option Jvm.ClassFile.FieldType)).before args0 about1 = true := code_word (m := ⟨7, 1⟩) (meth := k7m1) (c := k7c1) (by decide +kernel) rfl rfl rfl (by decide +kernel)
set_option maxRecDepth 65536 in
theorem w_c8 : (Jvm.Cond.code ({ cls := "com/example/hradcany/hradcany/authzen/AnswerText", name := "take", desc := "(I)V" } : Jvm.MethodName) prog_1_method_7_code (2 : Nat) (Option.none : Option Jvm.ClassFile.FieldType)).before args0 about1 = true := code_word (m := ⟨7, 3⟩) (meth := k7m3) (c := k7c3) (by decide +kernel) rfl rfl rfl (by decide +kernel)
set_option maxRecDepth 65536 in
theorem w_c9 : (Jvm.Cond.code ({ cls := "java/lang/StringBuilder", name := "length", desc := "()I" } : Jvm.MethodName) jdk_67_method_93_code (1 : Nat) (Option.some Jvm.ClassFile.FieldType.int)).before args0 about1 = true := code_word (m := ⟨12, 3⟩) (meth := k12m3) (c := k12c3) (by decide +kernel) rfl rfl rfl (by decide +kernel)
set_option maxRecDepth 65536 in
theorem w_c10 : (Jvm.Cond.code ({ cls := "java/lang/AbstractStringBuilder", name := "length", desc := "()I" } : Jvm.MethodName) jdk_68_method_6_code (1 : Nat) (Option.some Jvm.ClassFile.FieldType.int)).before args0 about1 = true := code_word (m := ⟨9, 2⟩) (meth := k9m2) (c := k9c2) (by decide +kernel) rfl rfl rfl (by decide +kernel)
set_option maxRecDepth 65536 in
theorem w_c11 : (Jvm.Cond.code ({ cls := "java/lang/StringBuilder", name := "append", desc := "([CII)Ljava/lang/StringBuilder;" } : Jvm.MethodName) jdk_67_method_12_code (4 : Nat) (Option.some (Jvm.ClassFile.FieldType.object "java/lang/StringBuilder"))).before args0 about1 = true := code_word (m := ⟨12, 1⟩) (meth := k12m1) (c := k12c1) (by decide +kernel) rfl rfl rfl (by decide +kernel)
set_option maxRecDepth 65536 in
theorem w_c12 : (Jvm.Cond.code ({ cls := "java/lang/AbstractStringBuilder", name := "append", desc := "([CII)Ljava/lang/AbstractStringBuilder;" } : Jvm.MethodName) jdk_68_method_29_code (5 : Nat) (Option.some (Jvm.ClassFile.FieldType.object "java/lang/AbstractStringBuilder"))).before args0 about1 = true := code_word (m := ⟨9, 4⟩) (meth := k9m4) (c := k9c4) (by decide +kernel) rfl rfl rfl (by decide +kernel)
set_option maxRecDepth 65536 in
theorem w_c13 : (Jvm.Cond.code ({ cls := "jdk/internal/util/Preconditions", name := "checkFromToIndex", desc := "(IIILjava/util/function/BiFunction;)I" } : Jvm.MethodName) jdk_41_method_12_code (4 : Nat) (Option.some Jvm.ClassFile.FieldType.int)).before args0 about1 = true := code_word (m := ⟨16, 2⟩) (meth := k16m2) (c := k16c2) (by decide +kernel) rfl rfl rfl (by decide +kernel)
set_option maxRecDepth 65536 in
theorem w_c14 : (Jvm.Cond.code ({ cls := "java/lang/AbstractStringBuilder", name := "ensureCapacityInternal", desc := "(I)V" } : Jvm.MethodName) jdk_68_method_9_code (3 : Nat) (Option.none : Option Jvm.ClassFile.FieldType)).before args0 about1 = true := code_word (m := ⟨9, 3⟩) (meth := k9m3) (c := k9c3) (by decide +kernel) rfl rfl rfl (by decide +kernel)
set_option maxRecDepth 65536 in
theorem w_c15 : (Jvm.Cond.code ({ cls := "java/lang/AbstractStringBuilder", name := "appendChars", desc := "([CII)V" } : Jvm.MethodName) jdk_68_method_74_code (9 : Nat) (Option.none : Option Jvm.ClassFile.FieldType)).before args0 about1 = true := code_word (m := ⟨9, 7⟩) (meth := k9m7) (c := k9c7) (by decide +kernel) rfl rfl rfl (by decide +kernel)
set_option maxRecDepth 65536 in
theorem w_c16 : (Jvm.Cond.code ({ cls := "java/lang/AbstractStringBuilder", name := "isLatin1", desc := "()Z" } : Jvm.MethodName) jdk_68_method_68_code (1 : Nat) (Option.some Jvm.ClassFile.FieldType.boolean)).before args0 about1 = true := code_word (m := ⟨9, 6⟩) (meth := k9m6) (c := k9c6) (by decide +kernel) rfl rfl rfl (by decide +kernel)
set_option maxRecDepth 65536 in
theorem w_c17 : (Jvm.Cond.code ({ cls := "com/example/hradcany/hradcany/authzen/AnswerText", name := "sent", desc := "()Ljava/util/Optional;" } : Jvm.MethodName) prog_1_method_6_code (3 : Nat) (Option.some (Jvm.ClassFile.FieldType.object "java/util/Optional"))).before args0 about1 = true := code_word (m := ⟨7, 2⟩) (meth := k7m2) (c := k7c2) (by decide +kernel) rfl rfl rfl (by decide +kernel)
set_option maxRecDepth 65536 in
theorem w_c18 : (Jvm.Cond.code ({ cls := "java/lang/StringBuilder", name := "toString", desc := "()Ljava/lang/String;" } : Jvm.MethodName) jdk_67_method_42_code (1 : Nat) (Option.some (Jvm.ClassFile.FieldType.object "java/lang/String"))).before args0 about1 = true := code_word (m := ⟨12, 2⟩) (meth := k12m2) (c := k12c2) (by decide +kernel) rfl rfl rfl (by decide +kernel)
set_option maxRecDepth 65536 in
theorem w_c19 : (Jvm.Cond.code ({ cls := "java/lang/String", name := "<init>", desc := "(Ljava/lang/StringBuilder;)V" } : Jvm.MethodName) jdk_42_method_53_code (2 : Nat) (Option.none : Option Jvm.ClassFile.FieldType)).before args0 about1 = true := code_word (m := ⟨15, 1⟩) (meth := k15m1) (c := k15c1) (by decide +kernel) rfl rfl rfl (by decide +kernel)
set_option maxRecDepth 65536 in
theorem w_c20 : (Jvm.Cond.code ({ cls := "java/lang/String", name := "<init>", desc := "(Ljava/lang/AbstractStringBuilder;Ljava/lang/Void;)V" } : Jvm.MethodName) jdk_42_method_150_code (5 : Nat) (Option.none : Option Jvm.ClassFile.FieldType)).before args0 about1 = true := code_word (m := ⟨15, 4⟩) (meth := k15m4) (c := k15c4) (by decide +kernel) rfl rfl rfl (by decide +kernel)
set_option maxRecDepth 65536 in
theorem w_c21 : (Jvm.Cond.code ({ cls := "java/lang/AbstractStringBuilder", name := "getValue", desc := "()[B" } : Jvm.MethodName) jdk_68_method_64_code (1 : Nat) (Option.some (Jvm.ClassFile.FieldType.array Jvm.ClassFile.FieldType.byte))).before args0 about1 = true := code_word (m := ⟨9, 5⟩) (meth := k9m5) (c := k9c5) (by decide +kernel) rfl rfl rfl (by decide +kernel)
set_option maxRecDepth 65536 in
theorem w_c22 : (Jvm.Cond.code ({ cls := "java/util/Arrays", name := "copyOfRange", desc := "([BII)[B" } : Jvm.MethodName) jdk_65_method_132_code (3 : Nat) (Option.some (Jvm.ClassFile.FieldType.array Jvm.ClassFile.FieldType.byte))).before args0 about1 = true := code_word (m := ⟨17, 2⟩) (meth := k17m2) (c := k17c2) (by decide +kernel) rfl rfl rfl (by decide +kernel)
set_option maxRecDepth 65536 in
theorem w_c23 : (Jvm.Cond.code ({ cls := "java/util/Arrays", name := "copyOfRangeByte", desc := "([BII)[B" } : Jvm.MethodName) jdk_65_method_133_code (5 : Nat) (Option.some (Jvm.ClassFile.FieldType.array Jvm.ClassFile.FieldType.byte))).before args0 about1 = true := code_word (m := ⟨17, 3⟩) (meth := k17m3) (c := k17c3) (by decide +kernel) rfl rfl rfl (by decide +kernel)
set_option maxRecDepth 65536 in
theorem w_c24 : (Jvm.Cond.code ({ cls := "java/util/Arrays", name := "checkLength", desc := "(II)V" } : Jvm.MethodName) jdk_65_method_131_code (2 : Nat) (Option.none : Option Jvm.ClassFile.FieldType)).before args0 about1 = true := code_word (m := ⟨17, 1⟩) (meth := k17m1) (c := k17c1) (by decide +kernel) rfl rfl rfl (by decide +kernel)
set_option maxRecDepth 65536 in
theorem w_c25 : (Jvm.Cond.code ({ cls := "java/lang/Math", name := "min", desc := "(II)I" } : Jvm.MethodName) jdk_29_method_69_code (2 : Nat) (Option.some Jvm.ClassFile.FieldType.int)).before args0 about1 = true := code_word (m := ⟨18, 1⟩) (meth := k18m1) (c := k18c1) (by decide +kernel) rfl rfl rfl (by decide +kernel)
set_option maxRecDepth 65536 in
theorem w_c26 : (Jvm.Cond.code ({ cls := "com/example/hradcany/hradcany/input/OneLine", name := "of", desc := "(Ljava/lang/String;)Ljava/lang/String;" } : Jvm.MethodName) prog_19_method_2_code (1 : Nat) (Option.some (Jvm.ClassFile.FieldType.object "java/lang/String"))).before args0 about1 = true := code_word (m := ⟨20, 1⟩) (meth := k20m1) (c := k20c1) (by decide +kernel) rfl rfl rfl (by decide +kernel)
set_option maxRecDepth 65536 in
theorem w_c27 : (Jvm.Cond.code ({ cls := "com/example/hradcany/hradcany/input/OneLine", name := "written", desc := "(Ljava/lang/String;Z)Ljava/lang/String;" } : Jvm.MethodName) prog_19_method_4_code (8 : Nat) (Option.some (Jvm.ClassFile.FieldType.object "java/lang/String"))).before args0 about1 = true := code_word (m := ⟨20, 2⟩) (meth := k20m2) (c := k20c2) (by decide +kernel) rfl rfl rfl (by decide +kernel)
set_option maxRecDepth 65536 in
theorem w_c28 : (Jvm.Cond.code ({ cls := "java/lang/String", name := "length", desc := "()I" } : Jvm.MethodName) jdk_42_method_54_code (1 : Nat) (Option.some Jvm.ClassFile.FieldType.int)).before args0 about1 = true := code_word (m := ⟨15, 2⟩) (meth := k15m2) (c := k15c2) (by decide +kernel) rfl rfl rfl (by decide +kernel)
set_option maxRecDepth 65536 in
theorem w_c29 : (Jvm.Cond.code ({ cls := "java/lang/String", name := "coder", desc := "()B" } : Jvm.MethodName) jdk_42_method_152_code (1 : Nat) (Option.some Jvm.ClassFile.FieldType.byte)).before args0 about1 = true := code_word (m := ⟨15, 5⟩) (meth := k15m5) (c := k15c5) (by decide +kernel) rfl rfl rfl (by decide +kernel)
set_option maxRecDepth 65536 in
theorem w_c30 : (Jvm.Cond.code ({ cls := "java/util/Optional", name := "empty", desc := "()Ljava/util/Optional;" } : Jvm.MethodName) jdk_32_method_1_code (1 : Nat) (Option.some (Jvm.ClassFile.FieldType.object "java/util/Optional"))).before args0 about1 = true := code_word (m := ⟨21, 0⟩) (meth := k21m0) (c := k21c0) (by decide +kernel) rfl rfl rfl (by decide +kernel)
set_option maxRecDepth 65536 in
theorem w_c31 : (Jvm.Cond.code ({ cls := "com/example/hradcany/hradcany/authzen/AnswerText", name := "utf8Length", desc := "(Ljava/lang/String;)J" } : Jvm.MethodName) prog_1_method_8_code (5 : Nat) (Option.some Jvm.ClassFile.FieldType.long)).before args0 about1 = true := code_word (m := ⟨7, 4⟩) (meth := k7m4) (c := k7c4) (by decide +kernel) rfl rfl rfl (by decide +kernel)
set_option maxRecDepth 65536 in
theorem w_c32 : (Jvm.Cond.code ({ cls := "java/util/Optional", name := "of", desc := "(Ljava/lang/Object;)Ljava/util/Optional;" } : Jvm.MethodName) jdk_32_method_3_code (1 : Nat) (Option.some (Jvm.ClassFile.FieldType.object "java/util/Optional"))).before args0 about1 = true := code_word (m := ⟨21, 2⟩) (meth := k21m2) (c := k21c2) (by decide +kernel) rfl rfl rfl (by decide +kernel)
set_option maxRecDepth 65536 in
theorem w_c33 : (Jvm.Cond.code ({ cls := "java/util/Objects", name := "requireNonNull", desc := "(Ljava/lang/Object;)Ljava/lang/Object;" } : Jvm.MethodName) jdk_31_method_10_code (1 : Nat) (Option.some (Jvm.ClassFile.FieldType.object "java/lang/Object"))).before args0 about1 = true := code_word (m := ⟨22, 1⟩) (meth := k22m1) (c := k22c1) (by decide +kernel) rfl rfl rfl (by decide +kernel)
set_option maxRecDepth 65536 in
theorem w_c34 : (Jvm.Cond.code ({ cls := "java/util/Optional", name := "<init>", desc := "(Ljava/lang/Object;)V" } : Jvm.MethodName) jdk_32_method_2_code (2 : Nat) (Option.none : Option Jvm.ClassFile.FieldType)).before args0 about1 = true := code_word (m := ⟨21, 1⟩) (meth := k21m1) (c := k21c1) (by decide +kernel) rfl rfl rfl (by decide +kernel)
set_option maxRecDepth 65536 in
theorem w_c35 : (Jvm.Cond.code ({ cls := "java/util/Optional", name := "orElse", desc := "(Ljava/lang/Object;)Ljava/lang/Object;" } : Jvm.MethodName) jdk_32_method_15_code (2 : Nat) (Option.some (Jvm.ClassFile.FieldType.object "java/lang/Object"))).before args0 about1 = true := code_word (m := ⟨21, 3⟩) (meth := k21m3) (c := k21c3) (by decide +kernel) rfl rfl rfl (by decide +kernel)
set_option maxRecDepth 65536 in
theorem w_c36 : (Jvm.Cond.code ({ cls := "com/example/hradcany/hradcany/authzen/AnswerTextWrite122PinLaw", name := "ok", desc := "(Ljava/lang/String;[CIIII)Z" } : Jvm.MethodName) method_4_code (7 : Nat) (Option.some Jvm.ClassFile.FieldType.boolean)).before args0 about1 = true := code_word (m := ⟨1, 3⟩) (meth := k1m3) (c := k1c3) (by decide +kernel) rfl rfl rfl (by decide +kernel)
set_option maxRecDepth 65536 in
theorem w_c37 : (Jvm.Cond.code ({ cls := "java/lang/StringLatin1", name := "canEncode", desc := "(C)Z" } : Jvm.MethodName) jdk_43_method_3_code (1 : Nat) (Option.some Jvm.ClassFile.FieldType.boolean)).before args0 about1 = true := code_word (m := ⟨23, 2⟩) (meth := k23m2) (c := k23c2) (by decide +kernel) rfl rfl rfl (by decide +kernel)
set_option maxRecDepth 65536 in
theorem w_c38 : (Jvm.Cond.code ({ cls := "com/example/hradcany/hradcany/input/OneLine", name := "escapes", desc := "(Ljava/lang/String;IZ)Z" } : Jvm.MethodName) prog_19_method_6_code (4 : Nat) (Option.some Jvm.ClassFile.FieldType.boolean)).before args0 about1 = true := code_word (m := ⟨20, 3⟩) (meth := k20m3) (c := k20c3) (by decide +kernel) rfl rfl rfl (by decide +kernel)
set_option maxRecDepth 65536 in
theorem w_c39 : (Jvm.Cond.code ({ cls := "java/lang/String", name := "charAt", desc := "(I)C" } : Jvm.MethodName) jdk_42_method_56_code (2 : Nat) (Option.some Jvm.ClassFile.FieldType.char)).before args0 about1 = true := code_word (m := ⟨15, 3⟩) (meth := k15m3) (c := k15c3) (by decide +kernel) rfl rfl rfl (by decide +kernel)
set_option maxRecDepth 65536 in
theorem w_c40 : (Jvm.Cond.code ({ cls := "java/lang/String", name := "isLatin1", desc := "()Z" } : Jvm.MethodName) jdk_42_method_154_code (1 : Nat) (Option.some Jvm.ClassFile.FieldType.boolean)).before args0 about1 = true := code_word (m := ⟨15, 6⟩) (meth := k15m6) (c := k15c6) (by decide +kernel) rfl rfl rfl (by decide +kernel)
set_option maxRecDepth 65536 in
theorem w_c41 : (Jvm.Cond.code ({ cls := "java/lang/StringLatin1", name := "charAt", desc := "([BI)C" } : Jvm.MethodName) jdk_43_method_2_code (2 : Nat) (Option.some Jvm.ClassFile.FieldType.char)).before args0 about1 = true := code_word (m := ⟨23, 1⟩) (meth := k23m1) (c := k23c1) (by decide +kernel) rfl rfl rfl (by decide +kernel)
set_option maxRecDepth 65536 in
theorem w_c42 : (Jvm.Cond.code ({ cls := "java/lang/String", name := "checkIndex", desc := "(II)V" } : Jvm.MethodName) jdk_42_method_155_code (2 : Nat) (Option.none : Option Jvm.ClassFile.FieldType)).before args0 about1 = true := code_word (m := ⟨15, 7⟩) (meth := k15m7) (c := k15c7) (by decide +kernel) rfl rfl rfl (by decide +kernel)
set_option maxRecDepth 65536 in
theorem w_c43 : (Jvm.Cond.code ({ cls := "jdk/internal/util/Preconditions", name := "checkIndex", desc := "(IILjava/util/function/BiFunction;)I" } : Jvm.MethodName) jdk_41_method_11_code (3 : Nat) (Option.some Jvm.ClassFile.FieldType.int)).before args0 about1 = true := code_word (m := ⟨16, 1⟩) (meth := k16m1) (c := k16c1) (by decide +kernel) rfl rfl rfl (by decide +kernel)
def codes1 : List Jvm.Cond := [Jvm.Cond.code x code maxLocals ret, Jvm.Cond.code ({ cls := "com/example/hradcany/hradcany/authzen/AnswerTextWrite122PinLaw", name := "draw", desc := "(II)C" } : Jvm.MethodName) method_3_code (2 : Nat) (Option.some Jvm.ClassFile.FieldType.char), Jvm.Cond.code ({ cls := "com/example/hradcany/hradcany/authzen/AnswerText", name := "<init>", desc := "(I)V" } : Jvm.MethodName) prog_1_method_1_code (2 : Nat) (Option.none : Option Jvm.ClassFile.FieldType), Jvm.Cond.code ({ cls := "java/io/Writer", name := "<init>", desc := "()V" } : Jvm.MethodName) jdk_2052_method_2_code (1 : Nat) (Option.none : Option Jvm.ClassFile.FieldType), Jvm.Cond.code ({ cls := "java/lang/Object", name := "<init>", desc := "()V" } : Jvm.MethodName) object_method_1_code (1 : Nat) (Option.none : Option Jvm.ClassFile.FieldType), Jvm.Cond.code ({ cls := "java/lang/StringBuilder", name := "<init>", desc := "()V" } : Jvm.MethodName) jdk_67_method_1_code (1 : Nat) (Option.none : Option Jvm.ClassFile.FieldType), Jvm.Cond.code ({ cls := "java/lang/AbstractStringBuilder", name := "<init>", desc := "(I)V" } : Jvm.MethodName) jdk_68_method_2_code (2 : Nat) (Option.none : Option Jvm.ClassFile.FieldType), Jvm.Cond.code ({ cls := "com/example/hradcany/hradcany/authzen/AnswerText", name := "write", desc := "([CII)V" } : Jvm.MethodName) prog_1_method_2_code (4 : Nat) (Option.none : Option Jvm.ClassFile.FieldType), Jvm.Cond.code ({ cls := "com/example/hradcany/hradcany/authzen/AnswerText", name := "take", desc := "(I)V" } : Jvm.MethodName) prog_1_method_7_code (2 : Nat) (Option.none : Option Jvm.ClassFile.FieldType), Jvm.Cond.code ({ cls := "java/lang/StringBuilder", name := "length", desc := "()I" } : Jvm.MethodName) jdk_67_method_93_code (1 : Nat) (Option.some Jvm.ClassFile.FieldType.int), Jvm.Cond.code ({ cls := "java/lang/AbstractStringBuilder", name := "length", desc := "()I" } : Jvm.MethodName) jdk_68_method_6_code (1 : Nat) (Option.some Jvm.ClassFile.FieldType.int), Jvm.Cond.code ({ cls := "java/lang/StringBuilder", name := "append", desc := "([CII)Ljava/lang/StringBuilder;" } : Jvm.MethodName) jdk_67_method_12_code (4 : Nat) (Option.some (Jvm.ClassFile.FieldType.object "java/lang/StringBuilder")), Jvm.Cond.code ({ cls := "java/lang/AbstractStringBuilder", name := "append", desc := "([CII)Ljava/lang/AbstractStringBuilder;" } : Jvm.MethodName) jdk_68_method_29_code (5 : Nat) (Option.some (Jvm.ClassFile.FieldType.object "java/lang/AbstractStringBuilder")), Jvm.Cond.code ({ cls := "jdk/internal/util/Preconditions", name := "checkFromToIndex", desc := "(IIILjava/util/function/BiFunction;)I" } : Jvm.MethodName) jdk_41_method_12_code (4 : Nat) (Option.some Jvm.ClassFile.FieldType.int), Jvm.Cond.code ({ cls := "java/lang/AbstractStringBuilder", name := "ensureCapacityInternal", desc := "(I)V" } : Jvm.MethodName) jdk_68_method_9_code (3 : Nat) (Option.none : Option Jvm.ClassFile.FieldType), Jvm.Cond.code ({ cls := "java/lang/AbstractStringBuilder", name := "appendChars", desc := "([CII)V" } : Jvm.MethodName) jdk_68_method_74_code (9 : Nat) (Option.none : Option Jvm.ClassFile.FieldType), Jvm.Cond.code ({ cls := "java/lang/AbstractStringBuilder", name := "isLatin1", desc := "()Z" } : Jvm.MethodName) jdk_68_method_68_code (1 : Nat) (Option.some Jvm.ClassFile.FieldType.boolean), Jvm.Cond.code ({ cls := "com/example/hradcany/hradcany/authzen/AnswerText", name := "sent", desc := "()Ljava/util/Optional;" } : Jvm.MethodName) prog_1_method_6_code (3 : Nat) (Option.some (Jvm.ClassFile.FieldType.object "java/util/Optional")), Jvm.Cond.code ({ cls := "java/lang/StringBuilder", name := "toString", desc := "()Ljava/lang/String;" } : Jvm.MethodName) jdk_67_method_42_code (1 : Nat) (Option.some (Jvm.ClassFile.FieldType.object "java/lang/String")), Jvm.Cond.code ({ cls := "java/lang/String", name := "<init>", desc := "(Ljava/lang/StringBuilder;)V" } : Jvm.MethodName) jdk_42_method_53_code (2 : Nat) (Option.none : Option Jvm.ClassFile.FieldType), Jvm.Cond.code ({ cls := "java/lang/String", name := "<init>", desc := "(Ljava/lang/AbstractStringBuilder;Ljava/lang/Void;)V" } : Jvm.MethodName) jdk_42_method_150_code (5 : Nat) (Option.none : Option Jvm.ClassFile.FieldType), Jvm.Cond.code ({ cls := "java/lang/AbstractStringBuilder", name := "getValue", desc := "()[B" } : Jvm.MethodName) jdk_68_method_64_code (1 : Nat) (Option.some (Jvm.ClassFile.FieldType.array Jvm.ClassFile.FieldType.byte)), Jvm.Cond.code ({ cls := "java/util/Arrays", name := "copyOfRange", desc := "([BII)[B" } : Jvm.MethodName) jdk_65_method_132_code (3 : Nat) (Option.some (Jvm.ClassFile.FieldType.array Jvm.ClassFile.FieldType.byte)), Jvm.Cond.code ({ cls := "java/util/Arrays", name := "copyOfRangeByte", desc := "([BII)[B" } : Jvm.MethodName) jdk_65_method_133_code (5 : Nat) (Option.some (Jvm.ClassFile.FieldType.array Jvm.ClassFile.FieldType.byte)), Jvm.Cond.code ({ cls := "java/util/Arrays", name := "checkLength", desc := "(II)V" } : Jvm.MethodName) jdk_65_method_131_code (2 : Nat) (Option.none : Option Jvm.ClassFile.FieldType), Jvm.Cond.code ({ cls := "java/lang/Math", name := "min", desc := "(II)I" } : Jvm.MethodName) jdk_29_method_69_code (2 : Nat) (Option.some Jvm.ClassFile.FieldType.int), Jvm.Cond.code ({ cls := "com/example/hradcany/hradcany/input/OneLine", name := "of", desc := "(Ljava/lang/String;)Ljava/lang/String;" } : Jvm.MethodName) prog_19_method_2_code (1 : Nat) (Option.some (Jvm.ClassFile.FieldType.object "java/lang/String")), Jvm.Cond.code ({ cls := "com/example/hradcany/hradcany/input/OneLine", name := "written", desc := "(Ljava/lang/String;Z)Ljava/lang/String;" } : Jvm.MethodName) prog_19_method_4_code (8 : Nat) (Option.some (Jvm.ClassFile.FieldType.object "java/lang/String")), Jvm.Cond.code ({ cls := "java/lang/String", name := "length", desc := "()I" } : Jvm.MethodName) jdk_42_method_54_code (1 : Nat) (Option.some Jvm.ClassFile.FieldType.int), Jvm.Cond.code ({ cls := "java/lang/String", name := "coder", desc := "()B" } : Jvm.MethodName) jdk_42_method_152_code (1 : Nat) (Option.some Jvm.ClassFile.FieldType.byte), Jvm.Cond.code ({ cls := "java/util/Optional", name := "empty", desc := "()Ljava/util/Optional;" } : Jvm.MethodName) jdk_32_method_1_code (1 : Nat) (Option.some (Jvm.ClassFile.FieldType.object "java/util/Optional")), Jvm.Cond.code ({ cls := "com/example/hradcany/hradcany/authzen/AnswerText", name := "utf8Length", desc := "(Ljava/lang/String;)J" } : Jvm.MethodName) prog_1_method_8_code (5 : Nat) (Option.some Jvm.ClassFile.FieldType.long), Jvm.Cond.code ({ cls := "java/util/Optional", name := "of", desc := "(Ljava/lang/Object;)Ljava/util/Optional;" } : Jvm.MethodName) jdk_32_method_3_code (1 : Nat) (Option.some (Jvm.ClassFile.FieldType.object "java/util/Optional")), Jvm.Cond.code ({ cls := "java/util/Objects", name := "requireNonNull", desc := "(Ljava/lang/Object;)Ljava/lang/Object;" } : Jvm.MethodName) jdk_31_method_10_code (1 : Nat) (Option.some (Jvm.ClassFile.FieldType.object "java/lang/Object")), Jvm.Cond.code ({ cls := "java/util/Optional", name := "<init>", desc := "(Ljava/lang/Object;)V" } : Jvm.MethodName) jdk_32_method_2_code (2 : Nat) (Option.none : Option Jvm.ClassFile.FieldType), Jvm.Cond.code ({ cls := "java/util/Optional", name := "orElse", desc := "(Ljava/lang/Object;)Ljava/lang/Object;" } : Jvm.MethodName) jdk_32_method_15_code (2 : Nat) (Option.some (Jvm.ClassFile.FieldType.object "java/lang/Object")), Jvm.Cond.code ({ cls := "com/example/hradcany/hradcany/authzen/AnswerTextWrite122PinLaw", name := "ok", desc := "(Ljava/lang/String;[CIIII)Z" } : Jvm.MethodName) method_4_code (7 : Nat) (Option.some Jvm.ClassFile.FieldType.boolean), Jvm.Cond.code ({ cls := "java/lang/StringLatin1", name := "canEncode", desc := "(C)Z" } : Jvm.MethodName) jdk_43_method_3_code (1 : Nat) (Option.some Jvm.ClassFile.FieldType.boolean), Jvm.Cond.code ({ cls := "com/example/hradcany/hradcany/input/OneLine", name := "escapes", desc := "(Ljava/lang/String;IZ)Z" } : Jvm.MethodName) prog_19_method_6_code (4 : Nat) (Option.some Jvm.ClassFile.FieldType.boolean), Jvm.Cond.code ({ cls := "java/lang/String", name := "charAt", desc := "(I)C" } : Jvm.MethodName) jdk_42_method_56_code (2 : Nat) (Option.some Jvm.ClassFile.FieldType.char), Jvm.Cond.code ({ cls := "java/lang/String", name := "isLatin1", desc := "()Z" } : Jvm.MethodName) jdk_42_method_154_code (1 : Nat) (Option.some Jvm.ClassFile.FieldType.boolean), Jvm.Cond.code ({ cls := "java/lang/StringLatin1", name := "charAt", desc := "([BI)C" } : Jvm.MethodName) jdk_43_method_2_code (2 : Nat) (Option.some Jvm.ClassFile.FieldType.char), Jvm.Cond.code ({ cls := "java/lang/String", name := "checkIndex", desc := "(II)V" } : Jvm.MethodName) jdk_42_method_155_code (2 : Nat) (Option.none : Option Jvm.ClassFile.FieldType), Jvm.Cond.code ({ cls := "jdk/internal/util/Preconditions", name := "checkIndex", desc := "(IILjava/util/function/BiFunction;)I" } : Jvm.MethodName) jdk_41_method_11_code (3 : Nat) (Option.some Jvm.ClassFile.FieldType.int)]
set_option maxRecDepth 65536 in
theorem codes_eq : words1.filter isCode = codes1 := rfl
theorem w_codes : ∀ c ∈ words1.filter isCode, c.before args0 about1 = true := by
  rw [codes_eq]
  intro c hc
  simp only [codes1, List.mem_cons, List.not_mem_nil, or_false] at hc
  rcases hc with rfl | rfl | rfl | rfl | rfl | rfl | rfl | rfl | rfl | rfl | rfl | rfl | rfl | rfl | rfl | rfl | rfl | rfl | rfl | rfl | rfl | rfl | rfl | rfl | rfl | rfl | rfl | rfl | rfl | rfl | rfl | rfl | rfl | rfl | rfl | rfl | rfl | rfl | rfl | rfl | rfl | rfl | rfl | rfl
  · exact w_c0
  · exact w_c1
  · exact w_c2
  · exact w_c3
  · exact w_c4
  · exact w_c5
  · exact w_c6
  · exact w_c7
  · exact w_c8
  · exact w_c9
  · exact w_c10
  · exact w_c11
  · exact w_c12
  · exact w_c13
  · exact w_c14
  · exact w_c15
  · exact w_c16
  · exact w_c17
  · exact w_c18
  · exact w_c19
  · exact w_c20
  · exact w_c21
  · exact w_c22
  · exact w_c23
  · exact w_c24
  · exact w_c25
  · exact w_c26
  · exact w_c27
  · exact w_c28
  · exact w_c29
  · exact w_c30
  · exact w_c31
  · exact w_c32
  · exact w_c33
  · exact w_c34
  · exact w_c35
  · exact w_c36
  · exact w_c37
  · exact w_c38
  · exact w_c39
  · exact w_c40
  · exact w_c41
  · exact w_c42
  · exact w_c43
set_option maxRecDepth 65536 in
theorem w_t1 : (words1.take 24).all (fun c => isCode c || c.before args0 about1) = true := by decide +kernel
set_option maxRecDepth 65536 in
theorem w_t2 : ((words1.drop 24).take 24).all (fun c => isCode c || c.before args0 about1) = true := by decide +kernel
set_option maxRecDepth 65536 in
theorem w_t3 : (((words1.drop 24).drop 24).take 24).all (fun c => isCode c || c.before args0 about1) = true := by decide +kernel
set_option maxRecDepth 65536 in
theorem w_t4 : ((((words1.drop 24).drop 24).drop 24).take 24).all (fun c => isCode c || c.before args0 about1) = true := by decide +kernel
set_option maxRecDepth 65536 in
theorem w_t5 : (((((words1.drop 24).drop 24).drop 24).drop 24).take 24).all (fun c => isCode c || c.before args0 about1) = true := by decide +kernel
set_option maxRecDepth 65536 in
theorem w_t6 : ((((((words1.drop 24).drop 24).drop 24).drop 24).drop 24).take 24).all (fun c => isCode c || c.before args0 about1) = true := by decide +kernel
set_option maxRecDepth 65536 in
theorem w_t7 : (((((((words1.drop 24).drop 24).drop 24).drop 24).drop 24).drop 24).take 24).all (fun c => isCode c || c.before args0 about1) = true := by decide +kernel
set_option maxRecDepth 65536 in
theorem w_t8 : ((((((((words1.drop 24).drop 24).drop 24).drop 24).drop 24).drop 24).drop 24).take 24).all (fun c => isCode c || c.before args0 about1) = true := by decide +kernel
set_option maxRecDepth 65536 in
theorem w_t9 : (((((((((words1.drop 24).drop 24).drop 24).drop 24).drop 24).drop 24).drop 24).drop 24).take 24).all (fun c => isCode c || c.before args0 about1) = true := by decide +kernel
set_option maxRecDepth 65536 in
theorem w_t10 : (((((((((words1.drop 24).drop 24).drop 24).drop 24).drop 24).drop 24).drop 24).drop 24).drop 24).all (fun c => isCode c || c.before args0 about1) = true := by decide +kernel
theorem w_tables : (allAtoms (Jvm.Cond.code x code maxLocals ret :: tables_1)).before args0 about1 = true := by
  rw [allAtoms_all]
  show words1.all (fun c => c.before args0 about1) = true
  refine all_split ?_ w_codes
  rw [← List.take_append_drop 24 words1, List.all_append, w_t1, ← List.take_append_drop 24 (words1.drop 24), List.all_append, w_t2, ← List.take_append_drop 24 ((words1.drop 24).drop 24), List.all_append, w_t3, ← List.take_append_drop 24 (((words1.drop 24).drop 24).drop 24), List.all_append, w_t4, ← List.take_append_drop 24 ((((words1.drop 24).drop 24).drop 24).drop 24), List.all_append, w_t5, ← List.take_append_drop 24 (((((words1.drop 24).drop 24).drop 24).drop 24).drop 24), List.all_append, w_t6, ← List.take_append_drop 24 ((((((words1.drop 24).drop 24).drop 24).drop 24).drop 24).drop 24), List.all_append, w_t7, ← List.take_append_drop 24 (((((((words1.drop 24).drop 24).drop 24).drop 24).drop 24).drop 24).drop 24), List.all_append, w_t8, ← List.take_append_drop 24 ((((((((words1.drop 24).drop 24).drop 24).drop 24).drop 24).drop 24).drop 24).drop 24), List.all_append, w_t9, w_t10]
  rfl
set_option maxRecDepth 65536 in
theorem w_rest : rest_1_c.before args0 about1 = true := by decide +kernel
set_option maxRecDepth 65536 in
theorem w_case : (Jvm.Cond.and given_1 narrow_1).before args0 about1 = true := by decide +kernel
theorem w_applies : (headSpec (Jvm.Cond.code x code maxLocals ret :: tables_1) room_1).applies x e0.platform about1 = true :=
  (Spec.applies_iff w_frames).mpr ⟨w_running, w_runnable, w_alone, w_named, w_hears, w_ripe, w_room, w_tables⟩
theorem atStart : AtStart classFile x code maxLocals ret World_1 tables_1 room_1 Calls_1 rest_1 Pre_1 launch0 p0 e0 about1 theMethod args0 below0 :=
  ⟨lists_1, trivial, launch0.admits_env _ _ _, launch0.least_env, fairChoices_fair.cas, fairChoices_fair.clock, w_frames, w_args, w_heap, w_applies, trivial, w_rest, w_case⟩
end start1
theorem witness_1 : WitnessClaimed_1 := ⟨start1.p0, start1.e0, start1.about1, start1.theMethod, start1.args0, start1.below0, start1.atStart⟩
end Jvm.Pilot.@@N@@
