import JvmDerived
import JvmDerived.Pilot.@@N@@Statement
import JvmDerived.Pilot.@@N@@Code
set_option linter.unusedVariables false
set_option linter.unusedSimpArgs false
namespace Jvm.RoadKit
open Sem ClassFile Op Lib Jvm.Stand Jvm.Free Jvm.LawKit
section OwnKit
variable {p : Program} {l : Launch} {e : Env} {R : Room} {s : State} {m : MethodId} {args : Array Value} {below : List Frame} {meth : Method} {c : Code} {T : State} {locs : List Loc} {cells slots : Nat} {Z : State} {a0 : Array Value} {h h' : Heap}
/-- from this frame on the method ends, and Post says how -/
def own_Fin (p : Program) (e : Env) (below : List Frame) (Post : Outcome → State → Prop) (T : State) (g : JFrame) : Prop :=
  ∃ (t : State) (o : Outcome), Steps p.tables e below (T.setTop g) t ∧ t.status = .running ∧ Ended t below o ∧ Post o t
theorem own_step {Post : Outcome → State → Prop} {T T' : State} {g g' : JFrame} (st : ∀ t, Steps p.tables e below (T'.setTop g') t → Steps p.tables e below (T.setTop g) t) (k : own_Fin p e below Post T' g') : own_Fin p e below Post T g := by
  obtain ⟨t, o, a, b⟩ := k
  exact ⟨t, o, st _ a, b⟩
abbrev own_PostN (s : State) (rm : Room) (Q : Option Value → Heap → List Loc → Prop) : Outcome → State → Prop := fun o U' => ∃ v L, o = .returned v ∧ Q v U'.heap L ∧ FrameEnd s o U' L rm.cells rm.slots
/-- a body's contract: for these arguments, at this heap, over tables warmer than Z's -/
def own_Con (l : Launch) (Z : State) (y : MethodName) (bytes : ByteArray) (maxL : Nat) (ret : Option FieldType) (rm : Room) (as' : Array Value) (h : Heap) (Q : Option Value → Heap → List Loc → Prop) : Prop :=
  ∀ ws : List Cond, MetFree l y (head1 (Cond.code y bytes maxL ret :: ws) rm) (fun a U => a = as' ∧ Z.Warmed39 U.vm ∧ U.heap = h) (fun _ _ _ _ _ => True) (fun _ U o U' => ∃ v L, o = .returned v ∧ Q v U'.heap L ∧ FrameEnd U o U' L rm.cells rm.slots)
theorem own_con {y : MethodName} {bytes : ByteArray} {maxL : Nat} {ret : Option FieldType} {rm : Room} {as' : Array Value} {Q : Option Value → Heap → List Loc → Prop} {ls : Array Slot} (hpl : plainName y.cls = true) (ef : ∀ m, entryFrame m as' maxL = mkF m 0 ls [])
    (body : ∀ (p : Program) (e : Env) (s : State) (m : MethodId) (below : List Frame) (meth : Method) (c : Code) (s₁ : State), p.tables.exec = Jvm.exec → c.code = bytes → c.maxLocals = maxL → s.vm.findClass y.cls = some m.cls → meth.name = y.name → meth.sig.returnType = ret → meth.locks = false → Z.Warmed39 s.vm →
      Stand p l e rm s m as' below meth c s₁ [] 0 0 → s₁.heap = h → own_Fin p e below (own_PostN s rm Q) s₁ (mkF m 0 ls [])) : own_Con l Z y bytes maxL ret rm as' h Q := by
  intro ws
  refine MetFree.of_bodySF (plainFor_of_name hpl) hisR ?_
  intro p e s m args below meth c s₁ Bd hml0 hP hK
  obtain ⟨rfl, hZ, hh⟩ := hP
  have k := body p e s m below meth c s₁ Bd.exec Bd.bytes hml0 (findClass_of_methodNamed Bd.named) (name_of_methodNamed Bd.named Bd.method).1 Bd.returns Bd.notSynchronized hZ (Stand.of_body Bd) (by rw [← hh, Bd.state]; rfl)
  rw [← ef m] at k
  exact k
theorem own_ret {rm : Room} {Q : Option Value → Heap → List Loc → Prop} (X : Stand p l e R s m args below meth c T locs cells slots) (hlk : meth.locks = false) {v : Option Value} (hv : meth.sig.returnType = none → v = none) {g : JFrame}
    (st : ∀ fs, (∀ (f : JFrame) (acts : List Action), f.method = m → f.locked = none → f.entered = [] → (doReturn e (T.setTop f) acts v).1 = T.setFrames fs) → Steps p.tables e below (T.setTop g) (T.setFrames fs))
    (eT : T.heap = h) (hQ : Q v h locs) (hc : cells ≤ rm.cells) (hs : slots ≤ rm.slots) : own_Fin p e below (own_PostN s rm Q) T g := by
  obtain ⟨fs, hr, hrun, hended, hW, hsame⟩ := X.leave (v := v) hv hlk
  refine ⟨_, _, st fs hr, hrun, hended, v, locs, rfl, ?_, ⟨_, rfl⟩, hW, hsame.mono hc hs⟩
  show Q v T.heap locs
  rw [eT]; exact hQ
theorem own_retV {rm : Room} {Q : Option Value → Heap → List Loc → Prop} (X : Stand p l e R s m args below meth c T locs cells slots) (hx : p.tables.exec = Jvm.exec) (hlk : meth.locks = false) (hret : meth.sig.returnType = none) {pc : Nat} {Ls : Array Slot} (hd : decode c.code pc = .ok (.return_, 1))
    (eT : T.heap = h) (hQ : Q none h locs) (hc : cells ≤ rm.cells) (hs : slots ≤ rm.slots) : own_Fin p e below (own_PostN s rm Q) T (mkF m pc Ls []) :=
  own_ret X hlk (fun _ => rfl) (fun fs hr => X.returnOut hx hret hd hr) eT hQ hc hs
theorem own_retN {rm : Room} {Q : Option Value → Heap → List Loc → Prop} (X : Stand p l e R s m args below meth c T locs cells slots) (hx : p.tables.exec = Jvm.exec) (hlk : meth.locks = false) {t : FieldType} (hret : meth.sig.returnType = some t) (ht : t = .boolean ∨ t = .byte ∨ t = .char ∨ t = .short) {pc : Nat} {Ls : Array Slot} {z : Int32} {rest : List Value} (hd : decode c.code pc = .ok (.ireturn, 1))
    (eT : T.heap = h) (hQ : Q (some (.int (nar t z))) h locs) (hc : cells ≤ rm.cells) (hs : slots ≤ rm.slots) : own_Fin p e below (own_PostN s rm Q) T (mkF m pc Ls (.int z :: rest)) :=
  own_ret X hlk (fun q => by rw [hret] at q; cases q) (fun fs hr => retN X hx hret ht hd hr) eT hQ hc hs
theorem own_retI {rm : Room} {Q : Option Value → Heap → List Loc → Prop} (X : Stand p l e R s m args below meth c T locs cells slots) (hx : p.tables.exec = Jvm.exec) (hlk : meth.locks = false) (hret : meth.sig.returnType = some .int) {pc : Nat} {Ls : Array Slot} {z : Int32} {rest : List Value} (hd : decode c.code pc = .ok (.ireturn, 1))
    (eT : T.heap = h) (hQ : Q (some (.int z)) h locs) (hc : cells ≤ rm.cells) (hs : slots ≤ rm.slots) : own_Fin p e below (own_PostN s rm Q) T (mkF m pc Ls (.int z :: rest)) :=
  own_ret X hlk (fun q => by rw [hret] at q; cases q) (fun fs hr => retOut X hx hret rfl (Or.inl ⟨rfl, Or.inl rfl, z, rfl⟩) hd hr) eT hQ hc hs
theorem own_retL {rm : Room} {Q : Option Value → Heap → List Loc → Prop} (X : Stand p l e R s m args below meth c T locs cells slots) (hx : p.tables.exec = Jvm.exec) (hlk : meth.locks = false) (hret : meth.sig.returnType = some .long) {pc : Nat} {Ls : Array Slot} {z : Int64} {rest : List Value} (hd : decode c.code pc = .ok (.lreturn, 1))
    (eT : T.heap = h) (hQ : Q (some (.long z)) h locs) (hc : cells ≤ rm.cells) (hs : slots ≤ rm.slots) : own_Fin p e below (own_PostN s rm Q) T (mkF m pc Ls (.long z :: rest)) :=
  own_ret X hlk (fun q => by rw [hret] at q; cases q) (fun fs hr => retOut X hx hret rfl (Or.inr (Or.inl ⟨rfl, rfl, z, rfl⟩)) hd hr) eT hQ hc hs
theorem own_retA {rm : Room} {Q : Option Value → Heap → List Loc → Prop} (X : Stand p l e R s m args below meth c T locs cells slots) (hx : p.tables.exec = Jvm.exec) (hlk : meth.locks = false) {t : FieldType} (hret : meth.sig.returnType = some t) {w : Value} (hn : narrow t w = w) (ht : t.isReference = true) (hw : w.isRef = true) {pc : Nat} {Ls : Array Slot} {rest : List Value} (hd : decode c.code pc = .ok (.areturn, 1))
    (eT : T.heap = h) (hQ : Q (some w) h locs) (hc : cells ≤ rm.cells) (hs : slots ≤ rm.slots) : own_Fin p e below (own_PostN s rm Q) T (mkF m pc Ls (w :: rest)) :=
  own_ret X hlk (fun q => by rw [hret] at q; cases q) (fun fs hr => retOut X hx hret hn (Or.inr (Or.inr (Or.inr (Or.inr ⟨rfl, ht, hw⟩)))) hd hr) eT hQ hc hs
/-- a constructor, by its contract -/
theorem own_callC {y : MethodName} {bytes : ByteArray} {maxL : Nat} {rm : Room} {Q : Option Value → Heap → List Loc → Prop} {own : String} {index W : Nat} (X : Stand p l e R s m args below meth c T locs cells slots) (hx : p.tables.exec = Jvm.exec) (hZ : Z.Warmed39 s.vm) (hown : s.vm.findClass own = some m.cls) (hy1 : y.name = "<init>")
    (w1 : (Cond.methodLink own index y).before a0 Z = true) (w2 : (Cond.instanceMethod y).before a0 Z = true) (wc : (Cond.code y bytes maxL none).before a0 Z = true) (wz : (Cond.initialized y.cls).before a0 Z = true) (hy : y.cls ≠ "java/lang/invoke/MethodHandle" ∧ y.cls ≠ "java/lang/invoke/VarHandle")
    {a : Addr} {g : JFrame} (hg : g.method = m) (hsize : g.locals.size = c.maxLocals) {argsL rest : List Value} (K : own_Con l Z y bytes maxL none rm (.ref a :: argsL).toArray h Q) (eT : T.heap = h) {ps : List FieldType} {r : Option FieldType} (hpd : parseMethodDescriptor y.desc = some ⟨ps, r⟩) (hlen : argsL.length = ps.length) (hstack : g.stack = argsL.reverse ++ .ref a :: rest) (hW : 2 * g.monitorRoom + (rest.map fun v => v.category).sum ≤ W)
    (hdg : decode c.code g.pc = .ok (.invokespecial index, 3)) (hf : rm.frames + 1 ≤ R.frames) (hl : W + (maxL + 11) + rm.locals ≤ R.locals) (hcc : cells + rm.cells ≤ R.cells) (hss : slots + rm.slots ≤ R.slots) :
    ∃ (T' : State) (L : List Loc) (v : Option Value) (h' : Heap), Stand p l e R s m args below meth c T' (locs ++ L) (cells + rm.cells) (slots + rm.slots) ∧ T'.heap = h' ∧ Q v h' L ∧ ∀ t, Steps p.tables e below (T'.setTop { g with pc := g.pc + 3, stack := v.toList ++ rest }) t → Steps p.tables e below (T.setTop g) t := by
  obtain ⟨v, _, ⟨T', L', k', n'⟩, -, X', ⟨L, hQ, l1, l2, l3⟩, st⟩ := X.specialBack hx hy1 hown (mvT hZ w1) (mvT hZ w2) (mvT hZ wc) hy (backOf (K []) hZ wc wz hf hl) hg hsize (Steps.refl _) (a := a) (argsL := argsL) (rest := rest) (lenOf hpd hlen) hstack hW hdg (fun _ _ => ⟨rfl, eT, hcc, hss⟩)
  dsimp only [Pt.U, Pt.locs, Pt.cells, Pt.slots] at X' l1 l2 l3 st hQ
  subst l1 l2 l3
  exact ⟨T', L, v, _, X', rfl, hQ, fun t k => st.trans k⟩
/-- a static method, by its contract -/
theorem own_callS {y : MethodName} {bytes : ByteArray} {maxL : Nat} {ret : Option FieldType} {rm : Room} {Q : Option Value → Heap → List Loc → Prop} {own : String} {index W : Nat} (X : Stand p l e R s m args below meth c T locs cells slots) (hx : p.tables.exec = Jvm.exec) (hZ : Z.Warmed39 s.vm) (hown : s.vm.findClass own = some m.cls)
    (w1 : (Cond.methodLink own index y).before a0 Z = true) (w2 : (Cond.static y).before a0 Z = true) (wc : (Cond.code y bytes maxL ret).before a0 Z = true) (wz : (Cond.initialized y.cls).before a0 Z = true) (hy : y.cls ≠ "java/lang/invoke/MethodHandle" ∧ y.cls ≠ "java/lang/invoke/VarHandle")
    {g : JFrame} (hg : g.method = m) (hsize : g.locals.size = c.maxLocals) {argsL rest : List Value} (K : own_Con l Z y bytes maxL ret rm argsL.toArray h Q) (eT : T.heap = h) {ps : List FieldType} {r : Option FieldType} (hpd : parseMethodDescriptor y.desc = some ⟨ps, r⟩) (hlen : argsL.length = ps.length) (hstack : g.stack = argsL.reverse ++ rest) (hW : 2 * g.monitorRoom + (rest.map fun v => v.category).sum ≤ W)
    (hdg : decode c.code g.pc = .ok (.invokestatic index, 3)) (hf : rm.frames + 1 ≤ R.frames) (hl : W + (maxL + 11) + rm.locals ≤ R.locals) (hcc : cells + rm.cells ≤ R.cells) (hss : slots + rm.slots ≤ R.slots) :
    ∃ (T' : State) (L : List Loc) (v : Option Value) (h' : Heap), Stand p l e R s m args below meth c T' (locs ++ L) (cells + rm.cells) (slots + rm.slots) ∧ T'.heap = h' ∧ Q v h' L ∧ ∀ t, Steps p.tables e below (T'.setTop { g with pc := g.pc + 3, stack := v.toList ++ rest }) t → Steps p.tables e below (T.setTop g) t := by
  obtain ⟨v, _, ⟨T', L', k', n'⟩, -, X', ⟨L, hQ, l1, l2, l3⟩, st⟩ := Jvm.LawKit.callS X hx hown (mvT hZ w1) (mvT hZ w2) (mvT hZ wz) (mvT hZ wc) hy (backOf (K []) hZ wc wz hf hl) hg hsize (argsL := argsL) (rest := rest) (lenOf hpd hlen) hstack hW hdg (fun _ _ => ⟨rfl, eT, hcc, hss⟩)
  dsimp only [Pt.U, Pt.locs, Pt.cells, Pt.slots] at X' l1 l2 l3 st hQ
  subst l1 l2 l3
  exact ⟨T', L, v, _, X', rfl, hQ, fun t k => st _ k⟩
/-- a static method that a class above declares -/
theorem own_callSU {x : MethodName} {owner : String} {bytes : ByteArray} {maxL : Nat} {ret : Option FieldType} {rm : Room} {Q : Option Value → Heap → List Loc → Prop} {own : String} {index W : Nat} (X : Stand p l e R s m args below meth c T locs cells slots) (hx : p.tables.exec = Jvm.exec) (hZ : Z.Warmed39 s.vm) (hown : s.vm.findClass own = some m.cls)
    (w1 : (Cond.methodLink own index x).before a0 Z = true) (ws : (Cond.sameMethod x.cls owner x.name x.desc).before a0 Z = true) (w2 : (Cond.static ⟨owner, x.name, x.desc⟩).before a0 Z = true) (wc : (Cond.code ⟨owner, x.name, x.desc⟩ bytes maxL ret).before a0 Z = true) (wz : (Cond.initialized owner).before a0 Z = true) (hy : owner ≠ "java/lang/invoke/MethodHandle" ∧ owner ≠ "java/lang/invoke/VarHandle")
    {g : JFrame} (hg : g.method = m) (hsize : g.locals.size = c.maxLocals) {argsL rest : List Value} (K : own_Con l Z ⟨owner, x.name, x.desc⟩ bytes maxL ret rm argsL.toArray h Q) (eT : T.heap = h) {ps : List FieldType} {r : Option FieldType} (hpd : parseMethodDescriptor x.desc = some ⟨ps, r⟩) (hlen : argsL.length = ps.length) (hstack : g.stack = argsL.reverse ++ rest) (hW : 2 * g.monitorRoom + (rest.map fun v => v.category).sum ≤ W)
    (hdg : decode c.code g.pc = .ok (.invokestatic index, 3)) (hf : rm.frames + 1 ≤ R.frames) (hl : W + (maxL + 11) + rm.locals ≤ R.locals) (hcc : cells + rm.cells ≤ R.cells) (hss : slots + rm.slots ≤ R.slots) :
    ∃ (T' : State) (L : List Loc) (v : Option Value) (h' : Heap), Stand p l e R s m args below meth c T' (locs ++ L) (cells + rm.cells) (slots + rm.slots) ∧ T'.heap = h' ∧ Q v h' L ∧ ∀ t, Steps p.tables e below (T'.setTop { g with pc := g.pc + 3, stack := v.toList ++ rest }) t → Steps p.tables e below (T.setTop g) t := by
  have wc' : (Cond.code ⟨owner, x.name, x.desc⟩ bytes maxL ret).before args s = true := mvT hZ wc
  obtain ⟨mk, hnamed⟩ := Cond.code_named wc'
  obtain ⟨methM, cM, hmethM, -, -, -, -, -, -, hsig⟩ := Cond.code_spec hnamed wc'
  obtain ⟨v, _, ⟨T', L', k', n'⟩, -, X', ⟨L, hQ, l1, l2, l3⟩, st⟩ := X.staticBackUp hx hown (mvT hZ w1) (mvT hZ ws) (mvT hZ w2) (mvT hZ wz) hnamed hmethM hsig hy (backOf (K []) hZ wc wz hf hl) hg hsize (Steps.refl _) (argsL := argsL) (rest := rest) (lenOf hpd hlen) hstack hW hdg (fun _ _ => ⟨rfl, eT, hcc, hss⟩)
  dsimp only [Pt.U, Pt.locs, Pt.cells, Pt.slots] at X' l1 l2 l3 st hQ
  subst l1 l2 l3
  exact ⟨T', L, v, _, X', rfl, hQ, fun t k => st.trans k⟩
/-- an instance method that the receiver's class selects, by its contract -/
theorem own_callV {y : MethodName} {C : String} {bytes : ByteArray} {maxL : Nat} {ret : Option FieldType} {rm : Room} {Q : Option Value → Heap → List Loc → Prop} {own : String} {index W : Nat} (X : Stand p l e R s m args below meth c T locs cells slots) (hx : p.tables.exec = Jvm.exec) (hZ : Z.Warmed39 s.vm) (hown : s.vm.findClass own = some m.cls)
    (w1 : (Cond.methodLink own index y).before a0 Z = true) (wd : (Cond.declares y).before a0 Z = true) (wsel : (Cond.selects C y y).before a0 Z = true) (w2 : (Cond.instanceMethod y).before a0 Z = true) (wc : (Cond.code y bytes maxL ret).before a0 Z = true) (wz : (Cond.initialized y.cls).before a0 Z = true) (hy : y.cls ≠ "java/lang/invoke/MethodHandle" ∧ y.cls ≠ "java/lang/invoke/VarHandle")
    {a : Addr} (E : Exa Z h a C) {g : JFrame} (hg : g.method = m) (hsize : g.locals.size = c.maxLocals) {argsL rest : List Value} (K : own_Con l Z y bytes maxL ret rm (.ref a :: argsL).toArray h Q) (eT : T.heap = h) {ps : List FieldType} {r : Option FieldType} (hpd : parseMethodDescriptor y.desc = some ⟨ps, r⟩) (hlen : argsL.length = ps.length) (hstack : g.stack = argsL.reverse ++ .ref a :: rest) (hW : 2 * g.monitorRoom + (rest.map fun v => v.category).sum ≤ W)
    (hdg : decode c.code g.pc = .ok (.invokevirtual index, 3)) (hf : rm.frames + 1 ≤ R.frames) (hl : W + (maxL + 11) + rm.locals ≤ R.locals) (hcc : cells + rm.cells ≤ R.cells) (hss : slots + rm.slots ≤ R.slots) :
    ∃ (T' : State) (L : List Loc) (v : Option Value) (h' : Heap), Stand p l e R s m args below meth c T' (locs ++ L) (cells + rm.cells) (slots + rm.slots) ∧ T'.heap = h' ∧ Q v h' L ∧ ∀ t, Steps p.tables e below (T'.setTop { g with pc := g.pc + 3, stack := v.toList ++ rest }) t → Steps p.tables e below (T.setTop g) t := by
  obtain ⟨cB, kB, q1, q2, q3⟩ := isOf hZ eT E
  obtain ⟨v, _, ⟨T', L', k', n'⟩, -, X', ⟨L, hQ, l1, l2, l3⟩, st⟩ := X.virtualBack hx hown (mvT hZ w1) (mvT hZ wd) (notFace_of_selects (args := #[]) (mvT hZ wsel)) (mvT hZ wsel) (mvT hZ w2) hy (backOf (K []) hZ wc wz hf hl) q1 q3 hg hsize (Steps.refl _) (argsL := argsL) (rest := rest) (lenOf hpd hlen) hstack hW hdg (fun _ _ => ⟨rfl, eT, hcc, hss⟩)
  dsimp only [Pt.U, Pt.locs, Pt.cells, Pt.slots] at X' l1 l2 l3 st hQ
  subst l1 l2 l3
  exact ⟨T', L, v, _, X', rfl, hQ, fun t k => st.trans k⟩
/-- .. that a class above the named one declares -/
theorem own_callVU {x : MethodName} {C owner : String} {bytes : ByteArray} {maxL : Nat} {ret : Option FieldType} {rm : Room} {Q : Option Value → Heap → List Loc → Prop} {own : String} {index W : Nat} (X : Stand p l e R s m args below meth c T locs cells slots) (hx : p.tables.exec = Jvm.exec) (hZ : Z.Warmed39 s.vm) (hown : s.vm.findClass own = some m.cls)
    (w1 : (Cond.methodLink own index x).before a0 Z = true) (ws : (Cond.sameMethod x.cls owner x.name x.desc).before a0 Z = true) (wd : (Cond.declares ⟨owner, x.name, x.desc⟩).before a0 Z = true) (hy : owner ≠ "java/lang/invoke/MethodHandle" ∧ owner ≠ "java/lang/invoke/VarHandle") (wsel : (Cond.selects C x ⟨owner, x.name, x.desc⟩).before a0 Z = true) (w2 : (Cond.instanceMethod ⟨owner, x.name, x.desc⟩).before a0 Z = true) (wc : (Cond.code ⟨owner, x.name, x.desc⟩ bytes maxL ret).before a0 Z = true) (wz : (Cond.initialized owner).before a0 Z = true)
    {a : Addr} (E : Exa Z h a C) {g : JFrame} (hg : g.method = m) (hsize : g.locals.size = c.maxLocals) {argsL rest : List Value} (K : own_Con l Z ⟨owner, x.name, x.desc⟩ bytes maxL ret rm (.ref a :: argsL).toArray h Q) (eT : T.heap = h) {ps : List FieldType} {r : Option FieldType} (hpd : parseMethodDescriptor x.desc = some ⟨ps, r⟩) (hlen : argsL.length = ps.length) (hstack : g.stack = argsL.reverse ++ .ref a :: rest) (hW : 2 * g.monitorRoom + (rest.map fun v => v.category).sum ≤ W)
    (hdg : decode c.code g.pc = .ok (.invokevirtual index, 3)) (hf : rm.frames + 1 ≤ R.frames) (hl : W + (maxL + 11) + rm.locals ≤ R.locals) (hcc : cells + rm.cells ≤ R.cells) (hss : slots + rm.slots ≤ R.slots) :
    ∃ (T' : State) (L : List Loc) (v : Option Value) (h' : Heap), Stand p l e R s m args below meth c T' (locs ++ L) (cells + rm.cells) (slots + rm.slots) ∧ T'.heap = h' ∧ Q v h' L ∧ ∀ t, Steps p.tables e below (T'.setTop { g with pc := g.pc + 3, stack := v.toList ++ rest }) t → Steps p.tables e below (T.setTop g) t := by
  obtain ⟨cB, kB, q1, q2, q3⟩ := isOf hZ eT E
  obtain ⟨v, _, ⟨T', L', k', n'⟩, -, X', ⟨L, hQ, l1, l2, l3⟩, st⟩ := X.virtualBackUp hx hown (mvT hZ w1) (mvT hZ ws) (mvT hZ wd) hy (mvT hZ wsel) (mvT hZ w2) (backOf (K []) hZ wc wz hf hl) q1 q3 hg hsize (Steps.refl _) (argsL := argsL) (rest := rest) (lenOf hpd hlen) hstack hW hdg (fun _ _ => ⟨rfl, eT, hcc, hss⟩)
  dsimp only [Pt.U, Pt.locs, Pt.cells, Pt.slots] at X' l1 l2 l3 st hQ
  subst l1 l2 l3
  exact ⟨T', L, v, _, X', rfl, hQ, fun t k => st.trans k⟩
/-- an object of just this class, no box of the VM's own -/
def own_Obj (Z : State) (h : Heap) (a : Addr) (C : String) : Prop := Exa Z h a C ∧ ∃ cell : Cell, h[a]? = some cell ∧ cell.vm ≠ .unknown
theorem own_Obj.new {a : Addr} {C : String} (E : Exa Z h a C) (N : ∃ cell : Cell, h[a]? = some cell ∧ cell.vm = .none ∧ cell.monitor = {}) : own_Obj Z h a C := by
  obtain ⟨cell, h1, h2, -⟩ := N
  exact ⟨E, cell, h1, by rw [h2]; simp⟩
theorem own_Obj.lt {a : Addr} {C : String} (F : own_Obj Z h a C) : a < h.size := F.1.lt
theorem own_Obj.ext {a : Addr} {C : String} (F : own_Obj Z h a C) (E : Ext h h') : own_Obj Z h' a C := by
  obtain ⟨F, cell, h1, h2⟩ := F
  exact ⟨F.ext E, cell, E.2 _ _ h1, h2⟩
theorem own_Obj.keep {a : Addr} {C : String} {ws : List Addr} (F : own_Obj Z h a C) (K : Keep h h' ws) : own_Obj Z h' a C := by
  obtain ⟨F, cell, h1, h2⟩ := F
  obtain ⟨c', q1, -, q3, -⟩ := K.2.2 a cell h1
  exact ⟨F.keep K, c', q1, by rw [q3]; exact h2⟩
theorem own_Obj.wr {a b : Addr} {C : String} {sl : Nat} {v : Value} (F : own_Obj Z h a C) (W : Wr h h' b sl v) : own_Obj Z h' a C := F.keep (Keep.of_wr W)
theorem own_Obj.fld {a : Addr} {C O n d : String} {k : Nat} (F : own_Obj Z h a C) (wi : (Cond.instantiable C k).before a0 Z = true) (L : Laid Z a0 C O n d) : ∃ v, Fld Z h a O n d v := fld_laid F.1 F.2 wi L
/-- arraylength, of an array known -/
theorem own_alen (X : Stand p l e R s m args below meth c T locs cells slots) (hx : p.tables.exec = Jvm.exec) (hZ : Z.Warmed39 s.vm) (eT : T.heap = h) {a : Addr} {k : ClassId} {ty : FieldType} {z : Int32} {vs : List Value} {dv : Value} (A : Arv Z h a k ty z vs dv) {g : JFrame} (hg : g.method = m) {rest : List Value} (hs : g.stack = .ref a :: rest) (hd : decode c.code g.pc = .ok (.arraylength, 1)) :
    ∀ t, Steps p.tables e below (T.setTop { g with pc := g.pc + 1, stack := .int z :: rest }) t → Steps p.tables e below (T.setTop g) t := by
  obtain ⟨cl, A, q1, S, q3, H, G⟩ := A
  intro t k
  refine X.arraylength hx (by rw [eT]; exact A.1) (State.isArrayOf_alike hZ.alike A.2.1) hg hs hd _ ?_
  rw [len_of S q3]
  exact k
/-- getfield through an entry that is said resolved -/
theorem own_getR (X : Stand p l e R s m args below meth c T locs cells slots) (hx : p.tables.exec = Jvm.exec) (hZ : Z.Warmed39 s.vm) {own O n d : String} {index : Nat} (hown : s.vm.findClass own = some m.cls) (w : (Cond.fieldRef own index O n d).before a0 Z = true) (eT : T.heap = h) {a : Addr} {v : Value} (F : Fld Z h a O n d v)
    {g : JFrame} (hg : g.method = m) {rest : List Value} (hs : g.stack = .ref a :: rest) (hd : decode c.code g.pc = .ok (.getfield index, 3)) :
    ∀ t, Steps p.tables e below (T.setTop { g with pc := g.pc + 3, stack := v :: rest }) t → Steps p.tables e below (T.setTop g) t := by
  have w1 : (Cond.fieldRef own index O n d).before a0 (Z.setVm s.vm) = true := Cond.fieldRef_warmed39 hZ w
  have w2 : (Cond.fieldRef own index O n d).before a0 ((Z.setVm s.vm).setVm T.vm) = true := Cond.fieldRef_warmed (s := Z.setVm s.vm) X.warmed w1
  have hU : Z.Warmed39 T.vm := wtrans hZ X.warmed
  have hown' : ((Z.setVm s.vm).setVm T.vm).vm.findClass own = some m.cls := by
    show T.vm.findClass own = _
    rw [X.warmed.alike.findClass]; exact hown
  obtain ⟨cf, k, i, f, hf, hr⟩ := Cond.fieldRef_spec hown' w2
  obtain ⟨cell, cf2, k2, i2, f2, h1, h2, h3, h4, -, -, h7⟩ := F
  obtain ⟨k', hi, -⟩ := State.fieldFound?_setVm (s := Z) hU.alike h2
  have hf' : (Z.setVm T.vm).fieldFound? O n d = some (cf, k, i, f) := hf
  rw [hi] at hf'
  cases hf'
  intro t k
  subst hg
  jvm_step X.here [X.here.top, hx, hd, getfield.wp_ready (e := e) (s := T) (f := g) X.here.top hr h3 hs (by rw [eT]; exact h1) h4 h7]
  exact k
end OwnKit
end Jvm.RoadKit
namespace Jvm.RoadKit
open Sem ClassFile Op Lib Jvm.Stand Jvm.Free Jvm.LawKit
section OwnBack
variable {p : Program} {l : Launch} {e : Env} {R : Room} {s : State} {m : MethodId} {args : Array Value} {below : List Frame} {meth : Method} {c : Code} {T : State} {locs : List Loc} {cells slots : Nat} {Z : State} {a0 : Array Value} {h h' : Heap}
/-- a constructor, by who pays it -/
theorem own_bcallC {y : MethodName} {bytes : ByteArray} {maxL nc ns : Nat} {Q : Option Value → Heap → List Loc → Prop} {own : String} {index W : Nat} (X : Stand p l e R s m args below meth c T locs cells slots) (hx : p.tables.exec = Jvm.exec) (hZ : Z.Warmed39 s.vm) (hown : s.vm.findClass own = some m.cls) (hy1 : y.name = "<init>")
    (w1 : (Cond.methodLink own index y).before a0 Z = true) (w2 : (Cond.instanceMethod y).before a0 Z = true) (wc : (Cond.code y bytes maxL none).before a0 Z = true) (hy : y.cls ≠ "java/lang/invoke/MethodHandle" ∧ y.cls ≠ "java/lang/invoke/VarHandle")
    {a : Addr} {g : JFrame} (hg : g.method = m) (hsize : g.locals.size = c.maxLocals) {argsL rest : List Value}
    (K : Back l R p e below s args y 3 W (fun A b => b = (.ref a :: argsL).toArray ∧ A.U.heap = h ∧ A.cells + nc ≤ R.cells ∧ A.slots + ns ≤ R.slots) (fun A _ v B => ∃ L, Q v B.U.heap L ∧ B.locs = A.locs ++ L ∧ B.cells = A.cells + nc ∧ B.slots = A.slots + ns))
    (eT : T.heap = h) {ps : List FieldType} {r : Option FieldType} (hpd : parseMethodDescriptor y.desc = some ⟨ps, r⟩) (hlen : argsL.length = ps.length) (hstack : g.stack = argsL.reverse ++ .ref a :: rest) (hW : 2 * g.monitorRoom + (rest.map fun v => v.category).sum ≤ W)
    (hdg : decode c.code g.pc = .ok (.invokespecial index, 3)) (hcc : cells + nc ≤ R.cells) (hss : slots + ns ≤ R.slots) :
    ∃ (T' : State) (L : List Loc) (v : Option Value) (h' : Heap), Stand p l e R s m args below meth c T' (locs ++ L) (cells + nc) (slots + ns) ∧ T'.heap = h' ∧ Q v h' L ∧ ∀ t, Steps p.tables e below (T'.setTop { g with pc := g.pc + 3, stack := v.toList ++ rest }) t → Steps p.tables e below (T.setTop g) t := by
  obtain ⟨v, _, ⟨T', L', k', n'⟩, -, X', ⟨L, hQ, l1, l2, l3⟩, st⟩ := X.specialBack hx hy1 hown (mvT hZ w1) (mvT hZ w2) (mvT hZ wc) hy K hg hsize (Steps.refl _) (a := a) (argsL := argsL) (rest := rest) (lenOf hpd hlen) hstack hW hdg (fun _ _ => ⟨rfl, eT, hcc, hss⟩)
  dsimp only [Pt.U, Pt.locs, Pt.cells, Pt.slots] at X' l1 l2 l3 st hQ
  subst l1 l2 l3
  exact ⟨T', L, v, _, X', rfl, hQ, fun t k => st.trans k⟩
/-- an instance method that the receiver's class selects, by who pays it -/
theorem own_bcallV {y : MethodName} {C : String} {nc ns : Nat} {Q : Option Value → Heap → List Loc → Prop} {own : String} {index W : Nat} (X : Stand p l e R s m args below meth c T locs cells slots) (hx : p.tables.exec = Jvm.exec) (hZ : Z.Warmed39 s.vm) (hown : s.vm.findClass own = some m.cls)
    (w1 : (Cond.methodLink own index y).before a0 Z = true) (wd : (Cond.declares y).before a0 Z = true) (wsel : (Cond.selects C y y).before a0 Z = true) (w2 : (Cond.instanceMethod y).before a0 Z = true) (hy : y.cls ≠ "java/lang/invoke/MethodHandle" ∧ y.cls ≠ "java/lang/invoke/VarHandle")
    {a : Addr} (E : Exa Z h a C) {g : JFrame} (hg : g.method = m) (hsize : g.locals.size = c.maxLocals) {argsL rest : List Value}
    (K : Back l R p e below s args y 3 W (fun A b => b = (.ref a :: argsL).toArray ∧ A.U.heap = h ∧ A.cells + nc ≤ R.cells ∧ A.slots + ns ≤ R.slots) (fun A _ v B => ∃ L, Q v B.U.heap L ∧ B.locs = A.locs ++ L ∧ B.cells = A.cells + nc ∧ B.slots = A.slots + ns))
    (eT : T.heap = h) {ps : List FieldType} {r : Option FieldType} (hpd : parseMethodDescriptor y.desc = some ⟨ps, r⟩) (hlen : argsL.length = ps.length) (hstack : g.stack = argsL.reverse ++ .ref a :: rest) (hW : 2 * g.monitorRoom + (rest.map fun v => v.category).sum ≤ W)
    (hdg : decode c.code g.pc = .ok (.invokevirtual index, 3)) (hcc : cells + nc ≤ R.cells) (hss : slots + ns ≤ R.slots) :
    ∃ (T' : State) (L : List Loc) (v : Option Value) (h' : Heap), Stand p l e R s m args below meth c T' (locs ++ L) (cells + nc) (slots + ns) ∧ T'.heap = h' ∧ Q v h' L ∧ ∀ t, Steps p.tables e below (T'.setTop { g with pc := g.pc + 3, stack := v.toList ++ rest }) t → Steps p.tables e below (T.setTop g) t := by
  obtain ⟨cB, kB, q1, q2, q3⟩ := isOf hZ eT E
  obtain ⟨v, _, ⟨T', L', k', n'⟩, -, X', ⟨L, hQ, l1, l2, l3⟩, st⟩ := X.virtualBack hx hown (mvT hZ w1) (mvT hZ wd) (notFace_of_selects (args := #[]) (mvT hZ wsel)) (mvT hZ wsel) (mvT hZ w2) hy K q1 q3 hg hsize (Steps.refl _) (argsL := argsL) (rest := rest) (lenOf hpd hlen) hstack hW hdg (fun _ _ => ⟨rfl, eT, hcc, hss⟩)
  dsimp only [Pt.U, Pt.locs, Pt.cells, Pt.slots] at X' l1 l2 l3 st hQ
  subst l1 l2 l3
  exact ⟨T', L, v, _, X', rfl, hQ, fun t k => st.trans k⟩
theorem own_nref {u : Value} {C : String} (r : u.isRef = true) : narrow (.object C) u = u := by cases u <;> simp [Value.isRef] at r <;> rfl
theorem own_fref {u : Value} {C : String} (r : u.isRef = true) : fits (.object C) u = true := by cases u <;> simp [Value.isRef] at r <;> rfl
/-- caload, of an array known -/
theorem own_caload (X : Stand p l e R s m args below meth c T locs cells slots) (hx : p.tables.exec = Jvm.exec) (hZ : Z.Warmed39 s.vm) (eT : T.heap = h) {a : Addr} {k : ClassId} {z j v : Int32} {vs : List Value} {dv : Value} (A : Arv Z h a k .char z vs dv) (hj : ¬ j < 0 ∧ j < z) (hv : vs.getD j.toNatClampNeg dv = .int v) {g : JFrame} (hg : g.method = m) {rest : List Value} (hs : g.stack = .int j :: .ref a :: rest) (hd : decode c.code g.pc = .ok (.caload, 1)) :
    ∀ t, Steps p.tables e below (T.setTop { g with pc := g.pc + 1, stack := .int v :: rest }) t → Steps p.tables e below (T.setTop g) t := by
  obtain ⟨cl, A, q1, S, q3, H, G⟩ := A
  intro t k
  exact X.caload hx (j := j) (v := .int v) (by rw [eT]; exact A.1) (State.isArrayOf_alike hZ.alike A.2.1) A.2.2 (inb_of S hj) (H.at (inb_of S hj) hv) hg hs hd _ k
end OwnBack
end Jvm.RoadKit
namespace Jvm.RoadKit
open Sem ClassFile Op Lib Bundle Jvm.Stand Jvm.Free Jvm.LawKit Jvm.Free.SB Jvm.Free.SBG
section OwnWide
variable {p : Program} {l : Launch} {e : Env} {R : Room} {s : State} {m : MethodId} {args : Array Value} {below : List Frame} {meth : Method} {c : Code} {T : State} {locs : List Loc} {cells slots : Nat} {Z : State} {a0 : Array Value} {h h' : Heap} {vm0 : Vm}
abbrev own_PostW (s : State) (rm : Room) (Q : Option Value → Heap → List Loc → Prop) : Outcome → State → Prop := fun o U' => ∃ v L, o = .returned v ∧ Q v U'.heap L ∧ ReturnedEndW s o U' L rm.cells rm.slots
/-- a body's contract where String constants may be loaded: J is what is known of the tables at its start -/
def own_ConW (l : Launch) (Z : State) (J : Vm → Prop) (y : MethodName) (bytes : ByteArray) (maxL : Nat) (ret : Option FieldType) (rm : Room) (as' : Array Value) (h : Heap) (Q : Option Value → Heap → List Loc → Prop) : Prop :=
  ∀ ws : List Cond, MetFree l y (head1 (Cond.code y bytes maxL ret :: ws) rm) (fun a U => a = as' ∧ Z.Warmed39 U.vm ∧ U.heap = h ∧ J U.vm) (fun _ _ _ _ _ => True) (fun _ U o U' => ∃ v L, o = .returned v ∧ Q v U'.heap L ∧ ReturnedEndW U o U' L rm.cells rm.slots)
theorem own_conW {J : Vm → Prop} {y : MethodName} {bytes : ByteArray} {maxL : Nat} {ret : Option FieldType} {rm : Room} {as' : Array Value} {Q : Option Value → Heap → List Loc → Prop} {ls : Array Slot} (hpl : plainName y.cls = true) (ef : ∀ m, entryFrame m as' maxL = mkF m 0 ls [])
    (body : ∀ (p : Program) (e : Env) (s : State) (m : MethodId) (below : List Frame) (meth : Method) (c : Code) (s₁ : State), p.tables.exec = Jvm.exec → c.code = bytes → c.maxLocals = maxL → s.vm.findClass y.cls = some m.cls → meth.name = y.name → meth.sig.returnType = ret → meth.locks = false → Z.Warmed39 s.vm →
      Stand p l e rm (s.setVm s.vm) m as' below meth c s₁ [] 0 0 → s₁.heap = h → s.Since s.vm 0 → J s.vm → own_Fin p e below (own_PostW s rm Q) s₁ (mkF m 0 ls [])) : own_ConW l Z J y bytes maxL ret rm as' h Q := by
  intro ws
  refine MetFree.of_bodySF (plainFor_of_name hpl) hisR ?_
  intro p e s m args below meth c s₁ Bd hml0 hP hK
  obtain ⟨rfl, hZ, hh, hJ⟩ := hP
  have k := body p e s m below meth c s₁ Bd.exec Bd.bytes hml0 (findClass_of_methodNamed Bd.named) (name_of_methodNamed Bd.named Bd.method).1 Bd.returns Bd.notSynchronized hZ (Stand.of_body Bd) (by rw [← hh, Bd.state]; rfl) ((State.WarmedH.refl s).since 0) hJ
  rw [← ef m] at k
  exact k
/-- a contract that loads no constant is one that may -/
theorem own_Con.wide {y : MethodName} {bytes : ByteArray} {maxL : Nat} {ret : Option FieldType} {rm : Room} {as' : Array Value} {Q : Option Value → Heap → List Loc → Prop} {J : Vm → Prop} (K : own_Con l Z y bytes maxL ret rm as' h Q) : own_ConW l Z J y bytes maxL ret rm as' h Q := fun ws =>
  MetFree.mono (K ws) (fun _ _ q => ⟨q.1, q.2.1, q.2.2.1⟩) (fun _ _ _ _ _ q => q) (fun _ _ _ _ _ ⟨v, L, h1, h2, h3, h4, h5⟩ => ⟨v, L, h1, h2, ReturnedEndW.of_narrow h3 h4 h5⟩)
theorem own_retW {rm : Room} {Q : Option Value → Heap → List Loc → Prop} (X : Stand p l e R (s.setVm vm0) m args below meth c T locs cells slots) {k0 : Nat} (hS : s.Since vm0 k0) (hk : k0 ≤ h.size) (hlk : meth.locks = false) {v : Option Value} (hv : meth.sig.returnType = none → v = none) {g : JFrame}
    (st : ∀ fs, (∀ (f : JFrame) (acts : List Action), f.method = m → f.locked = none → f.entered = [] → (doReturn e (T.setTop f) acts v).1 = T.setFrames fs) → Steps p.tables e below (T.setTop g) (T.setFrames fs))
    (eT : T.heap = h) (hQ : Q v h locs) (hc : cells ≤ rm.cells) (hs : slots ≤ rm.slots) : own_Fin p e below (own_PostW s rm Q) T g := by
  obtain ⟨fs, hr, hrun, hended, q1, q2, q3, q4⟩ := X.leaveW hS (by rw [eT]; exact hk) hv hlk
  refine ⟨_, _, st fs hr, hrun, hended, v, locs, rfl, ?_, q1, q2, q3, q4.mono hc hs⟩
  show Q v T.heap locs
  rw [eT]; exact hQ
theorem own_retVW {rm : Room} {Q : Option Value → Heap → List Loc → Prop} (X : Stand p l e R (s.setVm vm0) m args below meth c T locs cells slots) (hx : p.tables.exec = Jvm.exec) {k0 : Nat} (hS : s.Since vm0 k0) (hk : k0 ≤ h.size) (hlk : meth.locks = false) (hret : meth.sig.returnType = none) {pc : Nat} {Ls : Array Slot} (hd : decode c.code pc = .ok (.return_, 1))
    (eT : T.heap = h) (hQ : Q none h locs) (hc : cells ≤ rm.cells) (hs : slots ≤ rm.slots) : own_Fin p e below (own_PostW s rm Q) T (mkF m pc Ls []) :=
  own_retW X hS hk hlk (fun _ => rfl) (fun fs hr => X.returnOut hx hret hd hr) eT hQ hc hs
theorem own_retNW {rm : Room} {Q : Option Value → Heap → List Loc → Prop} (X : Stand p l e R (s.setVm vm0) m args below meth c T locs cells slots) (hx : p.tables.exec = Jvm.exec) {k0 : Nat} (hS : s.Since vm0 k0) (hk : k0 ≤ h.size) (hlk : meth.locks = false) {t : FieldType} (hret : meth.sig.returnType = some t) (ht : t = .boolean ∨ t = .byte ∨ t = .char ∨ t = .short) {pc : Nat} {Ls : Array Slot} {z : Int32} {rest : List Value} (hd : decode c.code pc = .ok (.ireturn, 1))
    (eT : T.heap = h) (hQ : Q (some (.int (nar t z))) h locs) (hc : cells ≤ rm.cells) (hs : slots ≤ rm.slots) : own_Fin p e below (own_PostW s rm Q) T (mkF m pc Ls (.int z :: rest)) :=
  own_retW X hS hk hlk (fun q => by rw [hret] at q; cases q) (fun fs hr => retN X hx hret ht hd hr) eT hQ hc hs
theorem own_retIW {rm : Room} {Q : Option Value → Heap → List Loc → Prop} (X : Stand p l e R (s.setVm vm0) m args below meth c T locs cells slots) (hx : p.tables.exec = Jvm.exec) {k0 : Nat} (hS : s.Since vm0 k0) (hk : k0 ≤ h.size) (hlk : meth.locks = false) (hret : meth.sig.returnType = some .int) {pc : Nat} {Ls : Array Slot} {z : Int32} {rest : List Value} (hd : decode c.code pc = .ok (.ireturn, 1))
    (eT : T.heap = h) (hQ : Q (some (.int z)) h locs) (hc : cells ≤ rm.cells) (hs : slots ≤ rm.slots) : own_Fin p e below (own_PostW s rm Q) T (mkF m pc Ls (.int z :: rest)) :=
  own_retW X hS hk hlk (fun q => by rw [hret] at q; cases q) (fun fs hr => retOut X hx hret rfl (Or.inl ⟨rfl, Or.inl rfl, z, rfl⟩) hd hr) eT hQ hc hs
theorem own_retAW {rm : Room} {Q : Option Value → Heap → List Loc → Prop} (X : Stand p l e R (s.setVm vm0) m args below meth c T locs cells slots) (hx : p.tables.exec = Jvm.exec) {k0 : Nat} (hS : s.Since vm0 k0) (hk : k0 ≤ h.size) (hlk : meth.locks = false) {t : FieldType} (hret : meth.sig.returnType = some t) {w : Value} (hn : narrow t w = w) (ht : t.isReference = true) (hw : w.isRef = true) {pc : Nat} {Ls : Array Slot} {rest : List Value} (hd : decode c.code pc = .ok (.areturn, 1))
    (eT : T.heap = h) (hQ : Q (some w) h locs) (hc : cells ≤ rm.cells) (hs : slots ≤ rm.slots) : own_Fin p e below (own_PostW s rm Q) T (mkF m pc Ls (w :: rest)) :=
  own_retW X hS hk hlk (fun q => by rw [hret] at q; cases q) (fun fs hr => retOut X hx hret hn (Or.inr (Or.inr (Or.inr (Or.inr ⟨rfl, ht, hw⟩)))) hd hr) eT hQ hc hs
/-- who pays a call of such a callee -/
theorem own_backW {J : Vm → Prop} {y : MethodName} {bytes : ByteArray} {maxL : Nat} {ret : Option FieldType} {rm : Room} {len W : Nat} {as' : Array Value} {Q : Option Value → Heap → List Loc → Prop} (K : own_ConW l Z J y bytes maxL ret rm as' h Q)
    (hZ : Z.Warmed39 s.vm) (wc : (Cond.code y bytes maxL ret).before a0 Z = true) (wz : (Cond.initialized y.cls).before a0 Z = true) (hf : rm.frames + 1 ≤ R.frames) (hl : W + (maxL + 11) + rm.locals ≤ R.locals)
    (hJ : ∀ (m : MethodId) (meth : Method) (c : Code) (A : Pt), Stand p l e R s m args below meth c A.U A.locs A.cells A.slots → J A.U.vm) :
    BackS l R p e below s args y len W (fun A a => a = as' ∧ A.U.heap = h ∧ A.cells + rm.cells ≤ R.cells ∧ A.slots + rm.slots ≤ R.slots)
      (fun A _ v B => ∃ L, Q v B.U.heap L ∧ B.locs = A.locs ++ L ∧ B.cells = A.cells + rm.cells ∧ B.slots = A.slots + rm.slots) :=
  BackS.of_freeW (bytes := bytes) (maxL := maxL) (ret := ret) (E := fun _ _ o t L k n => k = rm.cells ∧ n = rm.slots ∧ ∃ v, o = .returned v ∧ Q v t.heap L) (K []) hf hl
    (fun m meth c A a Y hp => have hU : Z.Warmed39 A.U.vm := wtrans hZ Y.warmed
      ⟨by show (Cond.and _ .tt).before a A.U = true; rw [Cond.before_and, mv hU wc]; rfl, mv hU wc, mv hU wz, hp.2.2.1, hp.2.2.2⟩)
    (fun m meth c A a g mk Y hp => ⟨hp.1, wtrans hZ Y.warmed, hp.2.1, hJ m meth c A Y⟩) (fun _ _ _ _ _ _ _ _ _ => trivial)
    (fun _ _ _ _ ⟨v, L, h1, h2, h3⟩ => ⟨L, _, _, h3, rfl, rfl, v, h1, h2⟩)
    (fun m meth c A a g mk v t L k n Y hp _ _ ⟨e1, e2, v', e3, e4⟩ => by cases e3; subst e1 e2; exact ⟨L, e4, rfl, rfl, rfl⟩)
/-- a constructor that may load constants -/
theorem own_callCW {J : Vm → Prop} {y : MethodName} {bytes : ByteArray} {maxL : Nat} {rm : Room} {Q : Option Value → Heap → List Loc → Prop} {own : String} {index W : Nat} (X : Stand p l e R (s.setVm vm0) m args below meth c T locs cells slots) (hx : p.tables.exec = Jvm.exec) (hZ : Z.Warmed39 vm0) (hown : vm0.findClass own = some m.cls) {k0 : Nat} (hS : s.Since vm0 k0) (hk : k0 ≤ h.size) (hy1 : y.name = "<init>")
    (w1 : (Cond.methodLink own index y).before a0 Z = true) (w2 : (Cond.instanceMethod y).before a0 Z = true) (wc : (Cond.code y bytes maxL none).before a0 Z = true) (wz : (Cond.initialized y.cls).before a0 Z = true) (hy : y.cls ≠ "java/lang/invoke/MethodHandle" ∧ y.cls ≠ "java/lang/invoke/VarHandle")
    {a : Addr} {g : JFrame} (hg : g.method = m) (hsize : g.locals.size = c.maxLocals) {argsL rest : List Value} (K : own_ConW l Z J y bytes maxL none rm (.ref a :: argsL).toArray h Q) (hJ : ∀ (m : MethodId) (meth : Method) (c : Code) (A : Pt), Stand p l e R (s.setVm vm0) m args below meth c A.U A.locs A.cells A.slots → J A.U.vm) (eT : T.heap = h) {ps : List FieldType} {r : Option FieldType} (hpd : parseMethodDescriptor y.desc = some ⟨ps, r⟩) (hlen : argsL.length = ps.length) (hstack : g.stack = argsL.reverse ++ .ref a :: rest) (hW : 2 * g.monitorRoom + (rest.map fun v => v.category).sum ≤ W)
    (hdg : decode c.code g.pc = .ok (.invokespecial index, 3)) (hf : rm.frames + 1 ≤ R.frames) (hl : W + (maxL + 11) + rm.locals ≤ R.locals) (hcc : cells + rm.cells ≤ R.cells) (hss : slots + rm.slots ≤ R.slots) :
    ∃ (T' : State) (L : List Loc) (v : Option Value) (h' : Heap), Stand p l e R (s.setVm T'.vm) m args below meth c T' (locs ++ L) (cells + rm.cells) (slots + rm.slots) ∧ T'.heap = h' ∧ s.Since T'.vm h'.size ∧ Z.Warmed39 T'.vm ∧ T'.vm.findClass own = some m.cls ∧ Q v h' L ∧ ∀ t, Steps p.tables e below (T'.setTop { g with pc := g.pc + 3, stack := v.toList ++ rest }) t → Steps p.tables e below (T.setTop g) t := by
  obtain ⟨v, _, ⟨T', L', k', n'⟩, -, X', S', G', ⟨L, hQ, l1, l2, l3⟩, st⟩ := X.specialBackS hx hy1 hown (mvT (s := s.setVm vm0) hZ w1) (mvT (s := s.setVm vm0) hZ w2) (mvT (s := s.setVm vm0) hZ wc) hy (own_backW (s := s.setVm vm0) K hZ wc wz hf hl hJ) hg hsize (Steps.refl _) (a := a) (argsL := argsL) (rest := rest) (lenOf hpd hlen) hstack hW hdg (fun _ _ => ⟨rfl, eT, hcc, hss⟩)
  dsimp only [Pt.U, Pt.locs, Pt.cells, Pt.slots] at X' l1 l2 l3 st hQ S' G'
  subst l1 l2 l3
  obtain ⟨r1, r2, r3, r4⟩ := rebS hS (by rw [← eT] at hk; exact hk) X' S' G' hZ hown
  exact ⟨T', L, v, _, r1, rfl, r2, r3, r4, hQ, fun t k => st.trans k⟩
/-- a static method that may -/
theorem own_callSW {J : Vm → Prop} {y : MethodName} {bytes : ByteArray} {maxL : Nat} {ret : Option FieldType} {rm : Room} {Q : Option Value → Heap → List Loc → Prop} {own : String} {index W : Nat} (X : Stand p l e R (s.setVm vm0) m args below meth c T locs cells slots) (hx : p.tables.exec = Jvm.exec) (hZ : Z.Warmed39 vm0) (hown : vm0.findClass own = some m.cls) {k0 : Nat} (hS : s.Since vm0 k0) (hk : k0 ≤ h.size)
    (w1 : (Cond.methodLink own index y).before a0 Z = true) (w2 : (Cond.static y).before a0 Z = true) (wc : (Cond.code y bytes maxL ret).before a0 Z = true) (wz : (Cond.initialized y.cls).before a0 Z = true) (hy : y.cls ≠ "java/lang/invoke/MethodHandle" ∧ y.cls ≠ "java/lang/invoke/VarHandle")
    {g : JFrame} (hg : g.method = m) (hsize : g.locals.size = c.maxLocals) {argsL rest : List Value} (K : own_ConW l Z J y bytes maxL ret rm argsL.toArray h Q) (hJ : ∀ (m : MethodId) (meth : Method) (c : Code) (A : Pt), Stand p l e R (s.setVm vm0) m args below meth c A.U A.locs A.cells A.slots → J A.U.vm) (eT : T.heap = h) {ps : List FieldType} {r : Option FieldType} (hpd : parseMethodDescriptor y.desc = some ⟨ps, r⟩) (hlen : argsL.length = ps.length) (hstack : g.stack = argsL.reverse ++ rest) (hW : 2 * g.monitorRoom + (rest.map fun v => v.category).sum ≤ W)
    (hdg : decode c.code g.pc = .ok (.invokestatic index, 3)) (hf : rm.frames + 1 ≤ R.frames) (hl : W + (maxL + 11) + rm.locals ≤ R.locals) (hcc : cells + rm.cells ≤ R.cells) (hss : slots + rm.slots ≤ R.slots) :
    ∃ (T' : State) (L : List Loc) (v : Option Value) (h' : Heap), Stand p l e R (s.setVm T'.vm) m args below meth c T' (locs ++ L) (cells + rm.cells) (slots + rm.slots) ∧ T'.heap = h' ∧ s.Since T'.vm h'.size ∧ Z.Warmed39 T'.vm ∧ T'.vm.findClass own = some m.cls ∧ Q v h' L ∧ ∀ t, Steps p.tables e below (T'.setTop { g with pc := g.pc + 3, stack := v.toList ++ rest }) t → Steps p.tables e below (T.setTop g) t := by
  obtain ⟨v, _, ⟨T', L', k', n'⟩, -, X', S', G', ⟨L, hQ, l1, l2, l3⟩, st⟩ := callSS X hx hown (mvT (s := s.setVm vm0) hZ w1) (mvT (s := s.setVm vm0) hZ w2) (mvT (s := s.setVm vm0) hZ wz) (mvT (s := s.setVm vm0) hZ wc) hy (own_backW (s := s.setVm vm0) K hZ wc wz hf hl hJ) hg hsize (argsL := argsL) (rest := rest) (lenOf hpd hlen) hstack hW hdg (fun _ _ => ⟨rfl, eT, hcc, hss⟩)
  dsimp only [Pt.U, Pt.locs, Pt.cells, Pt.slots] at X' l1 l2 l3 st hQ S' G'
  subst l1 l2 l3
  obtain ⟨r1, r2, r3, r4⟩ := rebS hS (by rw [← eT] at hk; exact hk) X' S' G' hZ hown
  exact ⟨T', L, v, _, r1, rfl, r2, r3, r4, hQ, fun t k => st.trans k⟩
end OwnWide
end Jvm.RoadKit
/- laws to paste: Road.backV (cut by pick.py; bodies as the Statement names them) -/
namespace Jvm.Pilot.@@N@@
namespace StrChars
open Jvm Sem ClassFile Op Lib Jvm.Stand Jvm.Free.XT Jvm.Free.ALB Jvm.Free.JM Jvm.Free
open Jvm.Lib.Cold (StaticIs)
/-- a char array whose places are chars -/
def Ch (a : Addr) (A : Cell) (U : State) : Prop := Arr .char a A U ∧ Typed .char A
theorem Ch.mv {a : Addr} {A : Cell} {U U' : State} (h : Ch a A U) (hal : U.vm.Alike U'.vm) (hh : U'.heap = U.heap) : Ch a A U' := ⟨h.1.mv hal hh, h.2⟩
theorem Ch.keep {a : Addr} {A : Cell} {U U' : State} (h : Ch a A U) (hal : U.vm.Alike U'.vm) (hk : U'.heap[a]? = some A) : Ch a A U' := ⟨h.1.keep hal hk, h.2⟩
/-- what place i of a char[]'s cell holds -/
def cv (A : Cell) (i : Nat) : Int32 := match A.slots[i]? with | some (.int x) => x | _ => 0
theorem Ch.get {a : Addr} {A : Cell} {U : State} (h : Ch a A U) {i : Nat} (hi : i < A.slots.size) : A.slots[i]? = some (.int (cv A i)) := by
  have e := Array.getElem?_eq_getElem hi
  have f := h.2 i _ e
  unfold cv; rw [e]
  generalize A.slots[i] = v at f
  cases v <;> simp [fits] at f ⊢
/-- the byte that i2b leaves of a char -/
def lo8 (x : Int32) : Int32 := x.toInt8.toInt32
theorem fits_lo8 (y : Int32) : fits .byte (.int (lo8 y)) = true := by
  have h1 := y.toInt8.le_toInt
  have h2 := y.toInt8.toInt_lt
  simp only [lo8, fits, Bool.and_eq_true, decide_eq_true_eq, Int32.le_iff_toInt_le, Int8.toInt_toInt32, show (-128 : Int32).toInt = -128 from by decide, show (127 : Int32).toInt = 127 from by decide]
  omega
/-- A' is A but that each place j of lo .. hi - 1 holds f j -/
def Laid (A A' : Cell) (lo hi : Nat) (f : Nat → Value) : Prop := A'.cls = A.cls ∧ A'.vm = A.vm ∧ A'.slots.size = A.slots.size ∧ ∀ i, A'.slots[i]? = if lo ≤ i ∧ i < hi then some (f i) else A.slots[i]?
theorem Laid.zero (A : Cell) (lo : Nat) (f : Nat → Value) : Laid A A lo (lo + 0) f := ⟨rfl, rfl, rfl, fun i => by rw [if_neg (by omega)]⟩
theorem Laid.step {A Ak : Cell} {lo k : Nat} {f : Nat → Value} {v : Value} (h : Laid A Ak lo k f) (hlo : lo ≤ k) (hk : k < Ak.slots.size) (hv : v = f k) : Laid A (Ak.setSlot k v) lo (k + 1) f := by
  refine ⟨h.1, h.2.1, by simpa [Cell.setSlot] using h.2.2.1, fun i => ?_⟩
  by_cases e : k = i
  · subst e; rw [Cell.slots_setSlot_self v hk, if_pos (by omega), hv]
  · rw [Cell.slots_setSlot_ne v e, h.2.2.2 i]
    by_cases q : lo ≤ i ∧ i < k
    · rw [if_pos q, if_pos (by omega)]
    · rw [if_neg q, if_neg (by omega)]
def U16 : String := "java/lang/StringUTF16"
namespace Cmp5
def yN : MethodName := ⟨"java/lang/StringUTF16", "compress", "([CI[BII)I"⟩
abbrev yB : ByteArray := jdk_52_method_21_code
theorem d0 : decode yB 0 = .ok (.iconst 0, 1) := by decide +kernel
theorem d1 : decode yB 1 = .ok (.istore 5, 2) := by decide +kernel
theorem d3 : decode yB 3 = .ok (.iload 5, 2) := by decide +kernel
theorem d5 : decode yB 5 = .ok (.iload 4, 2) := by decide +kernel
theorem d7 : decode yB 7 = .ok (.if_icmp (.ge) 37, 3) := by decide +kernel
theorem d10 : decode yB 10 = .ok (.aload_n 0, 1) := by decide +kernel
theorem d11 : decode yB 11 = .ok (.iload_n 1, 1) := by decide +kernel
theorem d12 : decode yB 12 = .ok (.caload, 1) := by decide +kernel
theorem d13 : decode yB 13 = .ok (.istore 6, 2) := by decide +kernel
theorem d15 : decode yB 15 = .ok (.iload 6, 2) := by decide +kernel
theorem d17 : decode yB 17 = .ok (.sipush 255, 3) := by decide +kernel
theorem d20 : decode yB 20 = .ok (.if_icmp (.le) 6, 3) := by decide +kernel
theorem d26 : decode yB 26 = .ok (.aload_n 2, 1) := by decide +kernel
theorem d27 : decode yB 27 = .ok (.iload_n 3, 1) := by decide +kernel
theorem d28 : decode yB 28 = .ok (.iload 6, 2) := by decide +kernel
theorem d30 : decode yB 30 = .ok (.i2b, 1) := by decide +kernel
theorem d31 : decode yB 31 = .ok (.bastore, 1) := by decide +kernel
theorem d32 : decode yB 32 = .ok (.iinc 1 1, 3) := by decide +kernel
theorem d35 : decode yB 35 = .ok (.iinc 3 1, 3) := by decide +kernel
theorem d38 : decode yB 38 = .ok (.iinc 5 1, 3) := by decide +kernel
theorem d41 : decode yB 41 = .ok (.goto (-38), 3) := by decide +kernel
theorem d44 : decode yB 44 = .ok (.iload 4, 2) := by decide +kernel
theorem d46 : decode yB 46 = .ok (.ireturn, 1) := by decide +kernel
def site : List Cond := []
def tab : Cond := tabOf yN yB 7 (some .int) site
def P (b : Addr) (A : Cell) (d : Addr) (B : Cell) (o q len : Nat) (args : Array Value) (s : State) : Prop := args = #[.ref b, .int (Int32.ofNat o), .ref d, .int (Int32.ofNat q), .int (Int32.ofNat len)] ∧ Ch b A s ∧ Arr .byte d B s ∧ b ≠ d ∧ o + len ≤ A.slots.size ∧ q + len ≤ B.slots.size ∧ ∀ i, i < len → ¬ 255 < cv A (o + i)
def E (b : Addr) (A : Cell) (d : Addr) (B : Cell) (o q len : Nat) (r : Option Value) (s u : State) : Prop := r = some (.int (Int32.ofNat len)) ∧ ∃ B', Put d B' s u ∧ Laid B B' q (q + len) (fun j => Value.int (lo8 (cv A (o + (j - q)))))
/-- no char of the range above 255: len; the places written hold each char's low byte -/
theorem law (l : Launch) (b : Addr) (A : Cell) (d : Addr) (B : Cell) (o q len : Nat) : Law l yN 5 5 0 0 yB 7 (some .int) site (P b A d B o q len) (E b A d B o q len) (copyLocs d q len) 0 0 := by
  refine Law.of_walk (plainFor_of_name (by decide +kernel)) (by decide +kernel) (by decide +kernel) (by decide) (fun _ _ h => by rw [h.1]; rfl) (fun _ U U' hal hh h => ⟨h.1, h.2.1.mv hal hh, h.2.2.1.mv hal hh, h.2.2.2⟩) (fun r U U' V V' h1 hal h2 h => ⟨h.1, h.2.elim fun B' q => ⟨B', q.1.mv h1 h2, q.2⟩⟩) ?_
  intro p e s m args below meth c s₁ X0 hexec hbytes hml hret hlk hnm hown hh0 W hP
  obtain ⟨rfl, hA, hB, hne, l1, l2, hp⟩ := hP
  have c1 : Steps p.tables e below (s₁.setTop (entryFrame m #[.ref b, .int (Int32.ofNat o), .ref d, .int (Int32.ofNat q), .int (Int32.ofNat len)] 7)) (s₁.setTop (mkF m 0 #[.val (.ref b), .val (.int (Int32.ofNat o)), .val (.ref d), .val (.int (Int32.ofNat q)), .val (.int (Int32.ofNat len)), .unset, .unset] [])) := entry rfl
  have hA0 := hA.1.mv X0.warmed.alike hh0
  have hB0 := hB.mv X0.warmed.alike hh0
  have a31 := hA.1.2.2.2
  have c2 : Steps p.tables e below (s₁.setTop (entryFrame m #[.ref b, .int (Int32.ofNat o), .ref d, .int (Int32.ofNat q), .int (Int32.ofNat len)] 7)) (s₁.setTop (mkF m 3 #[.val (.ref b), .val (.int (Int32.ofNat o)), .val (.ref d), .val (.int (Int32.ofNat q)), .val (.int (Int32.ofNat len)), .val (.int 0), .unset] [])) := c1.trans (by
    refine iconstV X0.here hexec rfl 0 (hb hbytes d0) (by decide) ?_
    refine XS.istore X0.here hexec rfl (hb hbytes d1) rfl rfl ?_
    exact Steps.refl _)
  have loop : ∀ (r i : Nat), i + r = len → ∀ (z : Slot), (z = .unset ∨ ∃ w, z = .val w ∧ w.category = 1) → ∀ (Tl : State) (Bk : Cell), Stand p l e { frames := 0, locals := 0, cells := 0, slots := 0 } s m #[.ref b, .int (Int32.ofNat o), .ref d, .int (Int32.ofNat q), .int (Int32.ofNat len)] below meth c Tl ([] ++ copyLocs d q i) 0 0 → Put d Bk s₁ Tl → Laid B Bk q (q + i) (fun j => Value.int (lo8 (cv A (o + (j - q))))) →
      Steps p.tables e below (s₁.setTop (entryFrame m #[.ref b, .int (Int32.ofNat o), .ref d, .int (Int32.ofNat q), .int (Int32.ofNat len)] 7)) (Tl.setTop (mkF m 3 #[.val (.ref b), .val (.int (Int32.ofNat (o + i))), .val (.ref d), .val (.int (Int32.ofNat (q + i))), .val (.int (Int32.ofNat len)), .val (.int (Int32.ofNat i)), z] [])) → ∃ (T' : State) (B' : Cell) (z' : Slot), Stand p l e { frames := 0, locals := 0, cells := 0, slots := 0 } s m #[.ref b, .int (Int32.ofNat o), .ref d, .int (Int32.ofNat q), .int (Int32.ofNat len)] below meth c T' ([] ++ copyLocs d q len) 0 0 ∧ Put d B' s₁ T' ∧ Laid B B' q (q + len) (fun j => Value.int (lo8 (cv A (o + (j - q))))) ∧
      Steps p.tables e below (s₁.setTop (entryFrame m #[.ref b, .int (Int32.ofNat o), .ref d, .int (Int32.ofNat q), .int (Int32.ofNat len)] 7)) (T'.setTop (mkF m 3 #[.val (.ref b), .val (.int (Int32.ofNat (o + len))), .val (.ref d), .val (.int (Int32.ofNat (q + len))), .val (.int (Int32.ofNat len)), .val (.int (Int32.ofNat len)), z'] [])) := by
    intro r
    induction r with
    | zero =>
      intro i hi z hz Tl Bk Xl pl fl cl
      have hil : i = len := by omega
      rw [hil] at Xl fl cl
      exact ⟨Tl, Bk, z, Xl, pl, fl, cl⟩
    | succ r ih =>
      intro i hi z hz Tl Bk Xl pl fl cl
      have all := X0.warmed.alike.symm.trans Xl.warmed.alike
      have hAl := hA0.keep all (pl.other hne hA0.1)
      have hBk := hB0.like all pl.1 fl.1 fl.2.1 fl.2.2.1
      have hlt : q + i < Bk.slots.size := by rw [fl.2.2.1]; omega
      have c3 : Steps p.tables e below (s₁.setTop (entryFrame m #[.ref b, .int (Int32.ofNat o), .ref d, .int (Int32.ofNat q), .int (Int32.ofNat len)] 7)) (Tl.setTop (mkF m 12 #[.val (.ref b), .val (.int (Int32.ofNat (o + i))), .val (.ref d), .val (.int (Int32.ofNat (q + i))), .val (.int (Int32.ofNat len)), .val (.int (Int32.ofNat i)), z] [.int (Int32.ofNat (o + i)), .ref b])) := cl.trans (by
        refine XS.iload Xl.here hexec rfl (hb hbytes d3) rfl ?_
        refine XS.iload Xl.here hexec rfl (hb hbytes d5) rfl ?_
        refine XS.icmpNo Xl.here hexec rfl (hb hbytes d7) rfl (ii_ge_f (lt32 (by omega) (by omega))) ?_
        refine XS.aloadN Xl.here hexec rfl (hb hbytes d10) rfl rfl ?_
        refine XS.iloadN Xl.here hexec rfl (hb hbytes d11) rfl ?_
        exact Steps.refl _)
      have c4 : Steps p.tables e below (s₁.setTop (entryFrame m #[.ref b, .int (Int32.ofNat o), .ref d, .int (Int32.ofNat q), .int (Int32.ofNat len)] 7)) (Tl.setTop (mkF m 13 #[.val (.ref b), .val (.int (Int32.ofNat (o + i))), .val (.ref d), .val (.int (Int32.ofNat (q + i))), .val (.int (Int32.ofNat len)), .val (.int (Int32.ofNat i)), z] [.int (cv A (o + i))])) := c3.trans (by
        refine Xl.aget hexec hAl rfl (hA.get (i := o + i) (by omega)) rfl rfl (hb hbytes d12) ?_
        exact Steps.refl _)
      have c5 : Steps p.tables e below (s₁.setTop (entryFrame m #[.ref b, .int (Int32.ofNat o), .ref d, .int (Int32.ofNat q), .int (Int32.ofNat len)] 7)) (Tl.setTop (mkF m 15 #[.val (.ref b), .val (.int (Int32.ofNat (o + i))), .val (.ref d), .val (.int (Int32.ofNat (q + i))), .val (.int (Int32.ofNat len)), .val (.int (Int32.ofNat i)), .val (.int (cv A (o + i)))] [])) := c4.trans (by
        refine XS.istoreS Xl.here hexec rfl (hb hbytes d13) rfl rfl hz ?_
        exact Steps.refl _)
      have c6 : Steps p.tables e below (s₁.setTop (entryFrame m #[.ref b, .int (Int32.ofNat o), .ref d, .int (Int32.ofNat q), .int (Int32.ofNat len)] 7)) (Tl.setTop (mkF m 31 #[.val (.ref b), .val (.int (Int32.ofNat (o + i))), .val (.ref d), .val (.int (Int32.ofNat (q + i))), .val (.int (Int32.ofNat len)), .val (.int (Int32.ofNat i)), .val (.int (cv A (o + i)))] [.int (lo8 (cv A (o + i))), .int (Int32.ofNat (q + i)), .ref d])) := c5.trans (by
        refine XS.iload Xl.here hexec rfl (hb hbytes d15) rfl ?_
        refine sipushV Xl.here hexec rfl 255 (hb hbytes d17) (by decide) ?_
        refine XS.icmpYes Xl.here hexec rfl (pc0 := 20) rfl (hb hbytes d20) rfl (ii_le_t (hp i (by omega))) (by decide) rfl ?_
        refine XS.aloadN Xl.here hexec rfl (hb hbytes d26) rfl rfl ?_
        refine XS.iloadN Xl.here hexec rfl (hb hbytes d27) rfl ?_
        refine XS.iload Xl.here hexec rfl (hb hbytes d28) rfl ?_
        refine i2b Xl.here hexec rfl (hb hbytes d30) rfl ?_
        exact Steps.refl _)
      obtain ⟨T7, X7, p7, st7⟩ := Xl.aput hexec hBk rfl hlt rfl (fits_lo8 (cv A (o + i))) (g := (mkF m 31 #[.val (.ref b), .val (.int (Int32.ofNat (o + i))), .val (.ref d), .val (.int (Int32.ofNat (q + i))), .val (.int (Int32.ofNat len)), .val (.int (Int32.ofNat i)), .val (.int (cv A (o + i)))] [.int (lo8 (cv A (o + i))), .int (Int32.ofNat (q + i)), .ref d])) rfl (rest := []) rfl (hb hbytes d31)
      have c8 : Steps p.tables e below (s₁.setTop (entryFrame m #[.ref b, .int (Int32.ofNat o), .ref d, .int (Int32.ofNat q), .int (Int32.ofNat len)] 7)) (T7.setTop (mkF m 32 #[.val (.ref b), .val (.int (Int32.ofNat (o + i))), .val (.ref d), .val (.int (Int32.ofNat (q + i))), .val (.int (Int32.ofNat len)), .val (.int (Int32.ofNat i)), .val (.int (cv A (o + i)))] [])) := c6.trans (st7 _ (Steps.refl _))
      have c9 : Steps p.tables e below (s₁.setTop (entryFrame m #[.ref b, .int (Int32.ofNat o), .ref d, .int (Int32.ofNat q), .int (Int32.ofNat len)] 7)) (T7.setTop (mkF m 3 #[.val (.ref b), .val (.int (Int32.ofNat (o + i) + 1)), .val (.ref d), .val (.int (Int32.ofNat (q + i) + 1)), .val (.int (Int32.ofNat len)), .val (.int (Int32.ofNat i + 1)), .val (.int (cv A (o + i)))] [])) := c8.trans (by
        refine iincV X7.here hexec rfl 1 (hb hbytes d32) (by decide) rfl rfl ?_
        refine iincV X7.here hexec rfl 1 (hb hbytes d35) (by decide) rfl rfl ?_
        refine iincV X7.here hexec rfl 1 (hb hbytes d38) (by decide) rfl rfl ?_
        refine XS.goto X7.here hexec rfl (pc0 := 41) rfl (hb hbytes d41) (by decide) rfl ?_
        exact Steps.refl _)
      have c10 : Steps p.tables e below (s₁.setTop (entryFrame m #[.ref b, .int (Int32.ofNat o), .ref d, .int (Int32.ofNat q), .int (Int32.ofNat len)] 7)) (T7.setTop (mkF m 3 #[.val (.ref b), .val (.int (Int32.ofNat (o + (i + 1)))), .val (.ref d), .val (.int (Int32.ofNat (q + (i + 1)))), .val (.int (Int32.ofNat len)), .val (.int (Int32.ofNat (i + 1))), .val (.int (cv A (o + i)))] [])) := by
        have := c9
        rw [succ32, succ32, succ32] at this
        exact this
      exact ih (i + 1) (by omega) _ (Or.inr ⟨_, rfl, rfl⟩) T7 _ (by rw [copyLocs_step, ← List.append_assoc]; exact X7) (pl.trans p7) (fl.step (by omega) hlt (by simp)) c10
  obtain ⟨T9, B9, z9, X9, p9, f9, g9⟩ := loop len 0 (by omega) .unset (Or.inl rfl) s₁ B (by simpa [copyLocs] using X0) ⟨hB0.1, fun _ _ => rfl, rfl⟩ (Laid.zero _ _ _) c2
  have c11 : Steps p.tables e below (s₁.setTop (entryFrame m #[.ref b, .int (Int32.ofNat o), .ref d, .int (Int32.ofNat q), .int (Int32.ofNat len)] 7)) (T9.setTop (mkF m 46 #[.val (.ref b), .val (.int (Int32.ofNat (o + len))), .val (.ref d), .val (.int (Int32.ofNat (q + len))), .val (.int (Int32.ofNat len)), .val (.int (Int32.ofNat len)), z9] [.int (Int32.ofNat len)])) := g9.trans (by
    refine XS.iload X9.here hexec rfl (hb hbytes d3) rfl ?_
    refine XS.iload X9.here hexec rfl (hb hbytes d5) rfl ?_
    refine XS.icmpYes X9.here hexec rfl (pc0 := 7) rfl (hb hbytes d7) rfl (ii_ge_t (nlt32 (by omega) (Nat.le_refl _))) (by decide) rfl ?_
    refine XS.iload X9.here hexec rfl (hb hbytes d44) rfl ?_
    exact Steps.refl _)
  exact ⟨T9, some (.int (Int32.ofNat len)), _, _, _, X9, by simp, rfl, rfl, (fun h => by cases h), ⟨rfl, B9, p9.from hh0, f9⟩, fun fs hl => c11.trans (X9.ireturnOut hexec hret rfl (Or.inl rfl) (hb hbytes d46) hl)⟩
end Cmp5
namespace Cmp3
def yN : MethodName := ⟨"java/lang/StringUTF16", "compress", "([CII)[B"⟩
abbrev yB : ByteArray := jdk_52_method_16_code
theorem d0 : decode yB 0 = .ok (.iload_n 2, 1) := by decide +kernel
theorem d1 : decode yB 1 = .ok (.newarray .byte, 2) := by decide +kernel
theorem d3 : decode yB 3 = .ok (.astore_n 3, 1) := by decide +kernel
theorem d4 : decode yB 4 = .ok (.aload_n 0, 1) := by decide +kernel
theorem d5 : decode yB 5 = .ok (.iload_n 1, 1) := by decide +kernel
theorem d6 : decode yB 6 = .ok (.aload_n 3, 1) := by decide +kernel
theorem d7 : decode yB 7 = .ok (.iconst 0, 1) := by decide +kernel
theorem d8 : decode yB 8 = .ok (.iload_n 2, 1) := by decide +kernel
theorem d9 : decode yB 9 = .ok (.invokestatic 115, 3) := by decide +kernel
theorem d12 : decode yB 12 = .ok (.istore 4, 2) := by decide +kernel
theorem d14 : decode yB 14 = .ok (.iload 4, 2) := by decide +kernel
theorem d16 : decode yB 16 = .ok (.iload_n 2, 1) := by decide +kernel
theorem d17 : decode yB 17 = .ok (.if_icmp (.eq) 40, 3) := by decide +kernel
theorem d57 : decode yB 57 = .ok (.aload_n 3, 1) := by decide +kernel
theorem d58 : decode yB 58 = .ok (.areturn, 1) := by decide +kernel
def site : List Cond := [.arrayClass .byte, Cmp5.tab] ++ staticW U16 115 Cmp5.yN
def tab : Cond := tabOf yN yB 6 (some (.array .byte)) site
def P (b : Addr) (A : Cell) (o len : Nat) (args : Array Value) (s : State) : Prop := args = #[.ref b, .int (Int32.ofNat o), .int (Int32.ofNat len)] ∧ Ch b A s ∧ o + len ≤ A.slots.size ∧ len ≤ 536870912 ∧ ∀ i, i < len → ¬ 255 < cv A (o + i)
def E (b : Addr) (A : Cell) (o len : Nat) (r : Option Value) (s u : State) : Prop := NewArr .byte "[B" len (fun j => .int (lo8 (cv A (o + j)))) r s u ∧ u.heap.size = s.heap.size + 1
/-- no char of the range above 255: a new byte[] of their low bytes -/
theorem law (l : Launch) (b : Addr) (A : Cell) (o len : Nat) : Law l yN 3 3 1 18 yB 6 (some (.array .byte)) site (P b A o len) (E b A o len) [] 1 len := by
  refine Law.of_walk (plainFor_of_name (by decide +kernel)) (by decide +kernel) (by decide +kernel) (by decide) (fun _ _ h => by rw [h.1]; rfl) (fun _ U U' hal hh h => ⟨h.1, h.2.1.mv hal hh, h.2.2⟩) (fun r U U' V V' h1 hal h2 h => ⟨NewArr.mv r U U' V V' h1 hal h2 h.1, by rw [h1, h2]; exact h.2⟩) ?_
  intro p e s m args below meth c s₁ X0 hexec hbytes hml hret hlk hnm hown hh0 W hP
  obtain ⟨rfl, hA, l1, l2, hp⟩ := hP
  have a31 := hA.1.2.2.2
  have c1 : Steps p.tables e below (s₁.setTop (entryFrame m #[.ref b, .int (Int32.ofNat o), .int (Int32.ofNat len)] 6)) (s₁.setTop (mkF m 0 #[.val (.ref b), .val (.int (Int32.ofNat o)), .val (.int (Int32.ofNat len)), .unset, .unset, .unset] [])) := entry rfl
  have c2 : Steps p.tables e below (s₁.setTop (entryFrame m #[.ref b, .int (Int32.ofNat o), .int (Int32.ofNat len)] 6)) (s₁.setTop (mkF m 1 #[.val (.ref b), .val (.int (Int32.ofNat o)), .val (.int (Int32.ofNat len)), .unset, .unset, .unset] [.int (Int32.ofNat len)])) := c1.trans (by
    refine XS.iloadN X0.here hexec rfl (hb hbytes d0) rfl ?_
    exact Steps.refl _)
  obtain ⟨T3, B3, X3, ba3, bs3, bv3, bh3, bf3, st3⟩ := X0.anew hexec (atype := .byte) (wk W (.arrayClass .byte)) rfl (by show len * 1 ≤ _; omega) (by omega) (g := (mkF m 1 #[.val (.ref b), .val (.int (Int32.ofNat o)), .val (.int (Int32.ofNat len)), .unset, .unset, .unset] [.int (Int32.ofNat len)])) rfl (hb hbytes d1) (rest := []) rfl (Nat.le_refl _) (by show 0 + len ≤ len; omega)
  rw [hh0] at ba3 st3
  have kp3 : XT.Kept s T3 := (XT.Kept.of_eq hh0).push bh3
  have hA3 := hA.keep X3.warmed.alike (kp3 _ _ hA.1.1)
  have hne : b ≠ s.heap.size := hA.1.ne
  have c4 : Steps p.tables e below (s₁.setTop (entryFrame m #[.ref b, .int (Int32.ofNat o), .int (Int32.ofNat len)] 6)) (T3.setTop (mkF m 3 #[.val (.ref b), .val (.int (Int32.ofNat o)), .val (.int (Int32.ofNat len)), .unset, .unset, .unset] [.ref s.heap.size])) := c2.trans (st3 _ (Steps.refl _))
  have c5 : Steps p.tables e below (s₁.setTop (entryFrame m #[.ref b, .int (Int32.ofNat o), .int (Int32.ofNat len)] 6)) (T3.setTop (mkF m 9 #[.val (.ref b), .val (.int (Int32.ofNat o)), .val (.int (Int32.ofNat len)), .val (.ref s.heap.size), .unset, .unset] [.int (Int32.ofNat len), .int 0, .ref s.heap.size, .int (Int32.ofNat o), .ref b])) := c4.trans (by
    refine XS.astoreN X3.here hexec rfl (hb hbytes d3) rfl rfl rfl ?_
    refine XS.aloadN X3.here hexec rfl (hb hbytes d4) rfl rfl ?_
    refine XS.iloadN X3.here hexec rfl (hb hbytes d5) rfl ?_
    refine XS.aloadN X3.here hexec rfl (hb hbytes d6) rfl rfl ?_
    refine iconstV X3.here hexec rfl 0 (hb hbytes d7) (by decide) ?_
    refine XS.iloadN X3.here hexec rfl (hb hbytes d8) rfl ?_
    exact Steps.refl _)
  obtain ⟨v6, T6, X6, E6, g6⟩ := X3.callS hexec (Cmp5.law l b A s.heap.size B3 o 0 len) hown (wks W (staticW U16 115 Cmp5.yN)) (wk W Cmp5.tab) (W := 0) (Nat.le_of_ble_eq_true rfl) (Nat.le_of_ble_eq_true rfl) (Nat.le_refl _) (by show 0 + len + 0 ≤ len; omega) (g := (mkF m 9 #[.val (.ref b), .val (.int (Int32.ofNat o)), .val (.int (Int32.ofNat len)), .val (.ref s.heap.size), .unset, .unset] [.int (Int32.ofNat len), .int (Int32.ofNat 0), .ref s.heap.size, .int (Int32.ofNat o), .ref b])) rfl (by rw [hml]; rfl) c5 (argsL := [.ref b, .int (Int32.ofNat o), .ref s.heap.size, .int (Int32.ofNat 0), .int (Int32.ofNat len)]) (rest := []) rfl rfl (by show 2 * 0 + 0 ≤ _; decide) (hb hbytes d9) (⟨rfl, hA3, ba3, hne, l1, by rw [bs3]; simp, hp⟩)
  obtain ⟨rfl, B6, p6, f6⟩ := E6
  have c7 : Steps p.tables e below (s₁.setTop (entryFrame m #[.ref b, .int (Int32.ofNat o), .int (Int32.ofNat len)] 6)) (T6.setTop (mkF m 12 #[.val (.ref b), .val (.int (Int32.ofNat o)), .val (.int (Int32.ofNat len)), .val (.ref s.heap.size), .unset, .unset] [.int (Int32.ofNat len)])) := g6
  have c8 : Steps p.tables e below (s₁.setTop (entryFrame m #[.ref b, .int (Int32.ofNat o), .int (Int32.ofNat len)] 6)) (T6.setTop (mkF m 58 #[.val (.ref b), .val (.int (Int32.ofNat o)), .val (.int (Int32.ofNat len)), .val (.ref s.heap.size), .val (.int (Int32.ofNat len)), .unset] [.ref s.heap.size])) := c7.trans (by
    refine XS.istore X6.here hexec rfl (hb hbytes d12) rfl rfl ?_
    refine XS.iload X6.here hexec rfl (hb hbytes d14) rfl ?_
    refine XS.iloadN X6.here hexec rfl (hb hbytes d16) rfl ?_
    refine XS.icmpYes X6.here hexec rfl (pc0 := 17) rfl (hb hbytes d17) rfl (ii_eq_t rfl) (by decide) rfl ?_
    refine XS.aloadN X6.here hexec rfl (hb hbytes d57) rfl rfl ?_
    exact Steps.refl _)
  have X8 := X6.wide (L' := []) (cells' := 1) (slots' := len) (fun x hx hlt => by
    simp only [List.nil_append, copyLocs, List.mem_map, List.mem_range] at hx
    obtain ⟨i, -, rfl⟩ := hx
    exact absurd hlt (Nat.lt_irrefl _)) (Nat.le_refl _) (by omega)
  exact ⟨T6, some (.ref s.heap.size), _, _, _, X8, rfl, rfl, rfl, (fun h => by cases h), ⟨⟨rfl, B6, ba3.like (X3.warmed.alike.symm.trans X6.warmed.alike) p6.1 f6.1 f6.2.1 f6.2.2.1, f6.2.1.trans bv3, by rw [X6.warmed.alike.findClass, f6.1]; exact bf3, by rw [f6.2.2.1, bs3]; simp, fun j hj => by rw [f6.2.2.2 j, if_pos (by omega)]; rfl, kp3.put p6 (Nat.le_refl _)⟩, by rw [p6.2.2, bh3, hh0]; simp⟩, fun fs hl => c8.trans (X8.areturnOut hexec rfl hret rfl (hb hbytes d58) hl)⟩
end Cmp3
namespace CodL
def yN : MethodName := ⟨"java/lang/StringUTF16", "coderFromArrayLen", "([BI)B"⟩
abbrev yB : ByteArray := jdk_52_method_15_code
theorem d0 : decode yB 0 = .ok (.iload_n 1, 1) := by decide +kernel
theorem d1 : decode yB 1 = .ok (.aload_n 0, 1) := by decide +kernel
theorem d2 : decode yB 2 = .ok (.arraylength, 1) := by decide +kernel
theorem d3 : decode yB 3 = .ok (.isub, 1) := by decide +kernel
theorem d4 : decode yB 4 = .ok (.bipush 31, 2) := by decide +kernel
theorem d6 : decode yB 6 = .ok (.iushr, 1) := by decide +kernel
theorem d7 : decode yB 7 = .ok (.i2b, 1) := by decide +kernel
theorem d8 : decode yB 8 = .ok (.ireturn, 1) := by decide +kernel
def site : List Cond := []
def tab : Cond := tabOf yN yB 2 (some .byte) site
def P (d : Addr) (B : Cell) (args : Array Value) (s : State) : Prop := args = #[.ref d, .int (Int32.ofNat B.slots.size)] ∧ Arr .byte d B s
def E (r : Option Value) (s u : State) : Prop := XT.PureE (some (.int 0)) r s u
/-- an array as long as the number of chars: LATIN1 -/
theorem law (l : Launch) (d : Addr) (B : Cell) : Law l yN 2 2 0 0 yB 2 (some .byte) site (P d B) E [] 0 0 := by
  refine Law.of_walk (plainFor_of_name (by decide +kernel)) (by decide +kernel) (by decide +kernel) (by decide) (fun _ _ h => by rw [h.1]; rfl) (fun _ U U' hal hh h => ⟨h.1, h.2.mv hal hh⟩) (fun r U U' V V' h1 hal h2 h => XT.PureE.mv r U U' V V' h1 hal h2 h) ?_
  intro p e s m args below meth c s₁ X0 hexec hbytes hml hret hlk hnm hown hh0 W hP
  obtain ⟨rfl, hB⟩ := hP
  have hB0 := hB.mv X0.warmed.alike hh0
  have c1 : Steps p.tables e below (s₁.setTop (entryFrame m #[.ref d, .int (Int32.ofNat B.slots.size)] 2)) (s₁.setTop (mkF m 0 #[.val (.ref d), .val (.int (Int32.ofNat B.slots.size))] [])) := entry rfl
  have c2 : Steps p.tables e below (s₁.setTop (entryFrame m #[.ref d, .int (Int32.ofNat B.slots.size)] 2)) (s₁.setTop (mkF m 2 #[.val (.ref d), .val (.int (Int32.ofNat B.slots.size))] [.ref d, .int (Int32.ofNat B.slots.size)])) := c1.trans (by
    refine XS.iloadN X0.here hexec rfl (hb hbytes d0) rfl ?_
    refine XS.aloadN X0.here hexec rfl (hb hbytes d1) rfl rfl ?_
    exact Steps.refl _)
  have c3 : Steps p.tables e below (s₁.setTop (entryFrame m #[.ref d, .int (Int32.ofNat B.slots.size)] 2)) (s₁.setTop (mkF m 8 #[.val (.ref d), .val (.int (Int32.ofNat B.slots.size))] [.int (lo8 (ushr (Int32.ofNat B.slots.size - Int32.ofNat B.slots.size) 31))])) := c2.trans (by
    refine X0.alen hexec hB0 rfl rfl (hb hbytes d2) ?_
    refine XS.isub X0.here hexec rfl (hb hbytes d3) rfl ?_
    refine bipushV X0.here hexec rfl 31 (hb hbytes d4) (by decide) ?_
    refine iushr X0.here hexec rfl (hb hbytes d6) rfl ?_
    refine i2b X0.here hexec rfl (hb hbytes d7) rfl ?_
    exact Steps.refl _)
  have e0 : lo8 (ushr (Int32.ofNat B.slots.size - Int32.ofNat B.slots.size) 31) = 0 := by rw [Int32.sub_self]; decide
  rw [e0] at c3
  exact ⟨s₁, some (.int 0), _, _, _, X0, rfl, rfl, rfl, (fun h => by cases h), ⟨rfl, hh0⟩, fun fs hl => c3.trans (X0.ireturnOut hexec hret rfl (Or.inr (Or.inr (Or.inl rfl))) (hb hbytes d8) hl)⟩
end CodL
/-- the String at a is Latin-1 over a new byte[] (the heap's one new cell): the low bytes of the len chars of A from o on; every cell but a is kept -/
def Got (a : Addr) (D : Cell) (fV fC : Field) (A : Cell) (o len : Nat) (r : Option Value) (s u : State) : Prop := r = none ∧ ∃ D' V : Cell, Blank "java/lang/String" a D' u ∧ Same D D' [fV.slot, fC.slot] ∧ D'.slots[fV.slot]? = some (.ref s.heap.size) ∧ D'.slots[fC.slot]? = some (.int 0) ∧ Arr .byte s.heap.size V u ∧ V.vm = .none ∧ u.vm.findClass "[B" = some V.cls ∧ V.slots.size = len ∧ (∀ j, j < len → V.slots[j]? = some (.int (lo8 (cv A (o + j))))) ∧ (∀ (y : Addr) (c : Cell), y ≠ a → s.heap[y]? = some c → u.heap[y]? = some c) ∧ u.heap.size = s.heap.size + 1
theorem Got.mv {a : Addr} {D A : Cell} {fV fC : Field} {o len : Nat} : ∀ r (U U' V V' : State), U'.heap = U.heap → V.vm.Alike V'.vm → V'.heap = V.heap → Got a D fV fC A o len r U V → Got a D fV fC A o len r U' V' :=
  fun r U U' V V' h1 hal h2 ⟨e0, D', X, a1, a2, a3, a4, a5, a6, a7, a8, a9, a10, a11⟩ => ⟨e0, D', X, a1.mv hal h2, a2, by rw [h1]; exact a3, a4, by rw [h1]; exact a5.mv hal h2, a6, by rw [hal.findClass]; exact a7, a8, a9, by rw [h1, h2]; exact a10, by rw [h1, h2]; exact a11⟩
namespace New4
def yN : MethodName := ⟨"java/lang/String", "<init>", "([CIILjava/lang/Void;)V"⟩
abbrev yB : ByteArray := jdk_42_method_149_code
theorem d0 : decode yB 0 = .ok (.aload_n 0, 1) := by decide +kernel
theorem d1 : decode yB 1 = .ok (.invokespecial 1, 3) := by decide +kernel
theorem d4 : decode yB 4 = .ok (.iload_n 3, 1) := by decide +kernel
theorem d5 : decode yB 5 = .ok (.ifCond (.ne) 22, 3) := by decide +kernel
theorem d27 : decode yB 27 = .ok (.getstatic 38, 3) := by decide +kernel
theorem d30 : decode yB 30 = .ok (.ifCond (.eq) 28, 3) := by decide +kernel
theorem d33 : decode yB 33 = .ok (.aload_n 1, 1) := by decide +kernel
theorem d34 : decode yB 34 = .ok (.iload_n 2, 1) := by decide +kernel
theorem d35 : decode yB 35 = .ok (.iload_n 3, 1) := by decide +kernel
theorem d36 : decode yB 36 = .ok (.invokestatic 177, 3) := by decide +kernel
theorem d39 : decode yB 39 = .ok (.astore 5, 2) := by decide +kernel
theorem d41 : decode yB 41 = .ok (.aload_n 0, 1) := by decide +kernel
theorem d42 : decode yB 42 = .ok (.aload 5, 2) := by decide +kernel
theorem d44 : decode yB 44 = .ok (.iload_n 3, 1) := by decide +kernel
theorem d45 : decode yB 45 = .ok (.invokestatic 47, 3) := by decide +kernel
theorem d48 : decode yB 48 = .ok (.putfield 15, 3) := by decide +kernel
theorem d51 : decode yB 51 = .ok (.aload_n 0, 1) := by decide +kernel
theorem d52 : decode yB 52 = .ok (.aload 5, 2) := by decide +kernel
theorem d54 : decode yB 54 = .ok (.putfield 9, 3) := by decide +kernel
theorem d57 : decode yB 57 = .ok (.return_, 1) := by decide +kernel
def site : List Cond := [.fieldLink "java/lang/String" 38 "java/lang/String" "COMPACT_STRINGS" "Z", Cmp3.tab, CodL.tab, .laysFinal "java/lang/String" "java/lang/String" "value" "[B", .fieldLink "java/lang/String" 9 "java/lang/String" "value" "[B", .laysFinal "java/lang/String" "java/lang/String" "coder" "B", .fieldLink "java/lang/String" 15 "java/lang/String" "coder" "B"] ++ objW "java/lang/String" 1 ++ staticW "java/lang/String" 177 Cmp3.yN ++ staticW "java/lang/String" 47 CodL.yN
def tab : Cond := tabOf yN yB 6 none site
def P (a : Addr) (D : Cell) (fV fC : Field) (b : Addr) (A : Cell) (z : Int32) (o len : Nat) (args : Array Value) (s : State) : Prop := args = #[.ref a, .ref b, .int (Int32.ofNat o), .int (Int32.ofNat len), .null] ∧ Blank "java/lang/String" a D s ∧ Found "java/lang/String" "value" "[B" fV s ∧ Found "java/lang/String" "coder" "B" fC s ∧ Ch b A s ∧ StaticIs s "java/lang/String" "COMPACT_STRINGS" "Z" (.int z) ∧ ¬ z = 0 ∧ 0 < len ∧ o + len ≤ A.slots.size ∧ len ≤ 536870912 ∧ ∀ i, i < len → ¬ 255 < cv A (o + i)
def E (a : Addr) (D : Cell) (fV fC : Field) (A : Cell) (o len : Nat) (r : Option Value) (s u : State) : Prop := Got a D fV fC A o len r s u
/-- len > 0, no char of the range above 255: a Latin-1 String of their low bytes -/
theorem law (l : Launch) (a : Addr) (D : Cell) (fV fC : Field) (b : Addr) (A : Cell) (z : Int32) (o len : Nat) : Law l yN 5 4 2 35 yB 6 none site (P a D fV fC b A z o len) (E a D fV fC A o len) [⟨a, fC.slot⟩, ⟨a, fV.slot⟩] 1 len := by
  refine Law.of_walk (plainFor_of_name (by decide +kernel)) (by decide +kernel) (by decide +kernel) (by decide) (fun _ _ h => by rw [h.1]; rfl) (fun _ U U' hal hh h => ⟨h.1, h.2.1.mv hal hh, h.2.2.1.al hal, h.2.2.2.1.al hal, h.2.2.2.2.1.mv hal hh, h.2.2.2.2.2.1.there hal hh, h.2.2.2.2.2.2⟩) (fun r U U' V V' h1 hal h2 h => Got.mv r U U' V V' h1 hal h2 h) ?_
  intro p e s m args below meth c s₁ X0 hexec hbytes hml hret hlk hnm hown hh0 W hP
  obtain ⟨rfl, hB, f1, f2, hA, s1, hz, l0, l1, l2, hp⟩ := hP
  have a31 := hA.1.2.2.2
  have c1 : Steps p.tables e below (s₁.setTop (entryFrame m #[.ref a, .ref b, .int (Int32.ofNat o), .int (Int32.ofNat len), .null] 6)) (s₁.setTop (mkF m 0 #[.val (.ref a), .val (.ref b), .val (.int (Int32.ofNat o)), .val (.int (Int32.ofNat len)), .val .null, .unset] [])) := entry rfl
  have c2 : Steps p.tables e below (s₁.setTop (entryFrame m #[.ref a, .ref b, .int (Int32.ofNat o), .int (Int32.ofNat len), .null] 6)) (s₁.setTop (mkF m 1 #[.val (.ref a), .val (.ref b), .val (.int (Int32.ofNat o)), .val (.int (Int32.ofNat len)), .val .null, .unset] [.ref a])) := c1.trans (by
    refine XS.aloadN X0.here hexec rfl (hb hbytes d0) rfl rfl ?_
    exact Steps.refl _)
  obtain ⟨T3, X3, q3, st3⟩ := X0.oinit hexec hown (wks W (objW "java/lang/String" 1)) (g := (mkF m 1 #[.val (.ref a), .val (.ref b), .val (.int (Int32.ofNat o)), .val (.int (Int32.ofNat len)), .val .null, .unset] [.ref a])) rfl (by rw [hml]; rfl) (rest := []) rfl (hb hbytes d1) (W := 0) (by show 2 * 0 + 0 ≤ _; decide) (Nat.le_of_ble_eq_true rfl) (Nat.le_of_ble_eq_true rfl)
  have hh3 := q3.trans hh0
  have c4 : Steps p.tables e below (s₁.setTop (entryFrame m #[.ref a, .ref b, .int (Int32.ofNat o), .int (Int32.ofNat len), .null] 6)) (T3.setTop (mkF m 27 #[.val (.ref a), .val (.ref b), .val (.int (Int32.ofNat o)), .val (.int (Int32.ofNat len)), .val .null, .unset] [])) := (c2.trans (st3 _ (Steps.refl _))).trans (by
    refine XS.iloadN X3.here hexec rfl (hb hbytes d4) rfl ?_
    refine XS.ifYes X3.here hexec rfl (pc0 := 5) rfl (hb hbytes d5) rfl (i0_ne_t (nz32 (by omega) l0)) (by decide) rfl ?_
    exact Steps.refl _)
  obtain ⟨T5, X5, q5, st5⟩ := X3.sget hexec hown (wk W (.fieldLink "java/lang/String" 38 "java/lang/String" "COMPACT_STRINGS" "Z")) s1 (fun _ _ h => by rw [hh3]; exact h) (g := (mkF m 27 #[.val (.ref a), .val (.ref b), .val (.int (Int32.ofNat o)), .val (.int (Int32.ofNat len)), .val .null, .unset] [])) rfl (hb hbytes d27)
  have hh5 := q5.trans hh3
  have c6 : Steps p.tables e below (s₁.setTop (entryFrame m #[.ref a, .ref b, .int (Int32.ofNat o), .int (Int32.ofNat len), .null] 6)) (T5.setTop (mkF m 30 #[.val (.ref a), .val (.ref b), .val (.int (Int32.ofNat o)), .val (.int (Int32.ofNat len)), .val .null, .unset] [.int z])) := c4.trans (st5 _ (Steps.refl _))
  have c7 : Steps p.tables e below (s₁.setTop (entryFrame m #[.ref a, .ref b, .int (Int32.ofNat o), .int (Int32.ofNat len), .null] 6)) (T5.setTop (mkF m 36 #[.val (.ref a), .val (.ref b), .val (.int (Int32.ofNat o)), .val (.int (Int32.ofNat len)), .val .null, .unset] [.int (Int32.ofNat len), .int (Int32.ofNat o), .ref b])) := c6.trans (by
    refine XS.ifNo X5.here hexec rfl (hb hbytes d30) rfl (i0_eq_f hz) ?_
    refine XS.aloadN X5.here hexec rfl (hb hbytes d33) rfl rfl ?_
    refine XS.iloadN X5.here hexec rfl (hb hbytes d34) rfl ?_
    refine XS.iloadN X5.here hexec rfl (hb hbytes d35) rfl ?_
    exact Steps.refl _)
  obtain ⟨v8, T8, X8, E8, g8⟩ := X5.callS hexec (Cmp3.law l b A o len) hown (wks W (staticW "java/lang/String" 177 Cmp3.yN)) (wk W Cmp3.tab) (W := 0) (Nat.le_of_ble_eq_true rfl) (Nat.le_of_ble_eq_true rfl) (Nat.le_refl _) (by show 0 + len ≤ len; omega) (g := (mkF m 36 #[.val (.ref a), .val (.ref b), .val (.int (Int32.ofNat o)), .val (.int (Int32.ofNat len)), .val .null, .unset] [.int (Int32.ofNat len), .int (Int32.ofNat o), .ref b])) rfl (by rw [hml]; rfl) c7 (argsL := [.ref b, .int (Int32.ofNat o), .int (Int32.ofNat len)]) (rest := []) rfl rfl (by show 2 * 0 + 0 ≤ _; decide) (hb hbytes d36) (⟨rfl, hA.mv X5.warmed.alike hh5, l1, l2, hp⟩)
  obtain ⟨e8, z8⟩ := E8
  obtain ⟨rfl, N, n1, n2, n3, n4, n5, n6⟩ := NewArr.mv _ T5 s _ _ hh5.symm (Vm.Alike.refl _) rfl e8
  rw [hh5] at z8
  have hB1 := hB.keep X8.warmed.alike (n6 _ _ hB.1)
  have hne : s.heap.size ≠ a := (Nat.ne_of_lt (Array.getElem?_eq_some_iff.mp hB.1).1).symm
  have c9 : Steps p.tables e below (s₁.setTop (entryFrame m #[.ref a, .ref b, .int (Int32.ofNat o), .int (Int32.ofNat len), .null] 6)) (T8.setTop (mkF m 39 #[.val (.ref a), .val (.ref b), .val (.int (Int32.ofNat o)), .val (.int (Int32.ofNat len)), .val .null, .unset] [.ref s.heap.size])) := g8
  have c10 : Steps p.tables e below (s₁.setTop (entryFrame m #[.ref a, .ref b, .int (Int32.ofNat o), .int (Int32.ofNat len), .null] 6)) (T8.setTop (mkF m 45 #[.val (.ref a), .val (.ref b), .val (.int (Int32.ofNat o)), .val (.int (Int32.ofNat len)), .val .null, .val (.ref s.heap.size)] [.int (Int32.ofNat N.slots.size), .ref s.heap.size, .ref a])) := by
    have hc : Steps p.tables e below (s₁.setTop (entryFrame m #[.ref a, .ref b, .int (Int32.ofNat o), .int (Int32.ofNat len), .null] 6)) (T8.setTop (mkF m 45 #[.val (.ref a), .val (.ref b), .val (.int (Int32.ofNat o)), .val (.int (Int32.ofNat len)), .val .null, .val (.ref s.heap.size)] [.int (Int32.ofNat len), .ref s.heap.size, .ref a])) := c9.trans (by
      refine XS.astore X8.here hexec rfl (hb hbytes d39) rfl rfl rfl ?_
      refine XS.aloadN X8.here hexec rfl (hb hbytes d41) rfl rfl ?_
      refine XS.aload X8.here hexec rfl (hb hbytes d42) rfl rfl ?_
      refine XS.iloadN X8.here hexec rfl (hb hbytes d44) rfl ?_
      exact Steps.refl _)
    rw [n4]; exact hc
  obtain ⟨v11, T11, X11, E11, g11⟩ := X8.callS hexec (CodL.law l s.heap.size N) hown (wks W (staticW "java/lang/String" 47 CodL.yN)) (wk W CodL.tab) (W := 1) (Nat.le_of_ble_eq_true rfl) (Nat.le_of_ble_eq_true rfl) (Nat.le_refl _) (by show 0 + len + 0 ≤ len; omega) (g := (mkF m 45 #[.val (.ref a), .val (.ref b), .val (.int (Int32.ofNat o)), .val (.int (Int32.ofNat len)), .val .null, .val (.ref s.heap.size)] [.int (Int32.ofNat N.slots.size), .ref s.heap.size, .ref a])) rfl (by rw [hml]; rfl) c10 (argsL := [.ref s.heap.size, .int (Int32.ofNat N.slots.size)]) (rest := [.ref a]) rfl rfl (by show 2 * 0 + (1 + 0) ≤ _; decide) (hb hbytes d45) (⟨rfl, n1⟩)
  obtain ⟨rfl, q11⟩ := E11
  have hB11 := hB1.mv (X8.warmed.alike.symm.trans X11.warmed.alike) q11
  have c12 : Steps p.tables e below (s₁.setTop (entryFrame m #[.ref a, .ref b, .int (Int32.ofNat o), .int (Int32.ofNat len), .null] 6)) (T11.setTop (mkF m 48 #[.val (.ref a), .val (.ref b), .val (.int (Int32.ofNat o)), .val (.int (Int32.ofNat len)), .val .null, .val (.ref s.heap.size)] [.int 0, .ref a])) := g11
  obtain ⟨T13, X13, p13, bl13, sl13, st13⟩ := X11.finit hexec hown (wk W (.fieldLink "java/lang/String" 15 "java/lang/String" "coder" "B")) (Or.inr ⟨_, (wk W (.laysFinal "java/lang/String" "java/lang/String" "coder" "B"))⟩) (Or.inl ⟨rfl, hnm⟩) f2 (Or.inl rfl) hB11 (t := .byte) (by decide +kernel) rfl (g := (mkF m 48 #[.val (.ref a), .val (.ref b), .val (.int (Int32.ofNat o)), .val (.int (Int32.ofNat len)), .val .null, .val (.ref s.heap.size)] [.int 0, .ref a])) rfl (rest := []) rfl (hb hbytes d48)
  have c14 : Steps p.tables e below (s₁.setTop (entryFrame m #[.ref a, .ref b, .int (Int32.ofNat o), .int (Int32.ofNat len), .null] 6)) (T13.setTop (mkF m 54 #[.val (.ref a), .val (.ref b), .val (.int (Int32.ofNat o)), .val (.int (Int32.ofNat len)), .val .null, .val (.ref s.heap.size)] [.ref s.heap.size, .ref a])) := (c12.trans (st13 _ (Steps.refl _))).trans (by
    refine XS.aloadN X13.here hexec rfl (hb hbytes d51) rfl rfl ?_
    refine XS.aload X13.here hexec rfl (hb hbytes d52) rfl rfl ?_
    exact Steps.refl _)
  obtain ⟨T15, X15, p15, bl15, sl15, st15⟩ := X13.finit hexec hown (wk W (.fieldLink "java/lang/String" 9 "java/lang/String" "value" "[B")) (Or.inr ⟨_, (wk W (.laysFinal "java/lang/String" "java/lang/String" "value" "[B"))⟩) (Or.inl ⟨rfl, hnm⟩) f1 (Or.inl rfl) bl13 (t := (.array .byte)) (by decide +kernel) rfl (g := (mkF m 54 #[.val (.ref a), .val (.ref b), .val (.int (Int32.ofNat o)), .val (.int (Int32.ofNat len)), .val .null, .val (.ref s.heap.size)] [.ref s.heap.size, .ref a])) rfl (rest := []) rfl (hb hbytes d54)
  have c16 : Steps p.tables e below (s₁.setTop (entryFrame m #[.ref a, .ref b, .int (Int32.ofNat o), .int (Int32.ofNat len), .null] 6)) (T15.setTop (mkF m 57 #[.val (.ref a), .val (.ref b), .val (.int (Int32.ofNat o)), .val (.int (Int32.ofNat len)), .val .null, .val (.ref s.heap.size)] [])) := c14.trans (st15 _ (Steps.refl _))
  have ap := apart (Or.inr ⟨_, (wk W (.laysFinal "java/lang/String" "java/lang/String" "value" "[B"))⟩) (Or.inr ⟨_, (wk W (.laysFinal "java/lang/String" "java/lang/String" "coder" "B"))⟩) f1 f2 (t₁ := .array .byte) (t₂ := .byte) (by decide +kernel) (by decide +kernel) (by decide)
  have al := X8.warmed.alike.symm.trans X15.warmed.alike
  have n7 : T11.heap[s.heap.size]? = some N := by rw [q11]; exact n1.1
  exact ⟨T15, none, _, _, _, X15, by simp, rfl, by omega, (fun _ => rfl), ⟨rfl, _, N, bl15, ((Same.refl D _).set _ (by simp)).set _ (by simp), sl15, (Cell.slots_setSlot_ne _ ap).trans sl13, n1.keep al (p15.other hne (p13.other hne n7)), n2, by rw [al.findClass]; exact n3, n4, n5, fun y c h1 h2 => p15.other h1 (p13.other h1 (by rw [q11]; exact n6 y c h2)), by rw [p15.2.2, p13.2.2, q11]; exact z8⟩, fun fs hl => c16.trans (X15.returnOut hexec hret (hb hbytes d57) hl)⟩
end New4
namespace New1
def yN : MethodName := ⟨"java/lang/String", "<init>", "([C)V"⟩
abbrev yB : ByteArray := jdk_42_method_3_code
theorem d0 : decode yB 0 = .ok (.aload_n 0, 1) := by decide +kernel
theorem d1 : decode yB 1 = .ok (.aload_n 1, 1) := by decide +kernel
theorem d2 : decode yB 2 = .ok (.iconst 0, 1) := by decide +kernel
theorem d3 : decode yB 3 = .ok (.aload_n 1, 1) := by decide +kernel
theorem d4 : decode yB 4 = .ok (.arraylength, 1) := by decide +kernel
theorem d5 : decode yB 5 = .ok (.aconst_null, 1) := by decide +kernel
theorem d6 : decode yB 6 = .ok (.invokespecial 27, 3) := by decide +kernel
theorem d9 : decode yB 9 = .ok (.return_, 1) := by decide +kernel
def site : List Cond := [New4.tab] ++ initW "java/lang/String" 27 New4.yN
def tab : Cond := tabOf yN yB 2 none site
def P (a : Addr) (D : Cell) (fV fC : Field) (b : Addr) (A : Cell) (z : Int32) (args : Array Value) (s : State) : Prop := args = #[.ref a, .ref b] ∧ Blank "java/lang/String" a D s ∧ Found "java/lang/String" "value" "[B" fV s ∧ Found "java/lang/String" "coder" "B" fC s ∧ Ch b A s ∧ StaticIs s "java/lang/String" "COMPACT_STRINGS" "Z" (.int z) ∧ ¬ z = 0 ∧ 0 < A.slots.size ∧ A.slots.size ≤ 536870912 ∧ ∀ i, i < A.slots.size → ¬ 255 < cv A i
def E (a : Addr) (D : Cell) (fV fC : Field) (A : Cell) (r : Option Value) (s u : State) : Prop := Got a D fV fC A 0 A.slots.size r s u
/-- new String(chars), not empty, no char above 255: a Latin-1 String of their low bytes -/
theorem law (l : Launch) (a : Addr) (D : Cell) (fV fC : Field) (b : Addr) (A : Cell) (z : Int32) : Law l yN 2 1 3 52 yB 2 none site (P a D fV fC b A z) (E a D fV fC A) [⟨a, fC.slot⟩, ⟨a, fV.slot⟩] 1 A.slots.size := by
  refine Law.of_walk (plainFor_of_name (by decide +kernel)) (by decide +kernel) (by decide +kernel) (by decide) (fun _ _ h => by rw [h.1]; rfl) (fun _ U U' hal hh h => ⟨h.1, h.2.1.mv hal hh, h.2.2.1.al hal, h.2.2.2.1.al hal, h.2.2.2.2.1.mv hal hh, h.2.2.2.2.2.1.there hal hh, h.2.2.2.2.2.2⟩) (fun r U U' V V' h1 hal h2 h => Got.mv r U U' V V' h1 hal h2 h) ?_
  intro p e s m args below meth c s₁ X0 hexec hbytes hml hret hlk hnm hown hh0 W hP
  obtain ⟨rfl, hB, f1, f2, hA, s1, hz, l0, l2, hp⟩ := hP
  have c1 : Steps p.tables e below (s₁.setTop (entryFrame m #[.ref a, .ref b] 2)) (s₁.setTop (mkF m 0 #[.val (.ref a), .val (.ref b)] [])) := entry rfl
  have c2 : Steps p.tables e below (s₁.setTop (entryFrame m #[.ref a, .ref b] 2)) (s₁.setTop (mkF m 6 #[.val (.ref a), .val (.ref b)] [.null, .int (Int32.ofNat A.slots.size), .int 0, .ref b, .ref a])) := c1.trans (by
    refine XS.aloadN X0.here hexec rfl (hb hbytes d0) rfl rfl ?_
    refine XS.aloadN X0.here hexec rfl (hb hbytes d1) rfl rfl ?_
    refine iconstV X0.here hexec rfl 0 (hb hbytes d2) (by decide) ?_
    refine XS.aloadN X0.here hexec rfl (hb hbytes d3) rfl rfl ?_
    refine X0.alen hexec (hA.1.mv X0.warmed.alike hh0) rfl rfl (hb hbytes d4) ?_
    refine XS.aconstNull X0.here hexec rfl (hb hbytes d5) ?_
    exact Steps.refl _)
  obtain ⟨v3, T3, X3, E3, g3⟩ := X0.callN hexec (New4.law l a D fV fC b A z 0 A.slots.size) rfl hown (wks W (initW "java/lang/String" 27 New4.yN)) (W New4.tab (by simp only [site, List.mem_cons, List.mem_append, true_or, or_true])) (W := 0) (Nat.le_of_ble_eq_true rfl) (Nat.le_of_ble_eq_true rfl) (Nat.le_refl _) (by show 0 + A.slots.size ≤ A.slots.size; omega) (g := (mkF m 6 #[.val (.ref a), .val (.ref b)] [.null, .int (Int32.ofNat A.slots.size), .int (Int32.ofNat 0), .ref b, .ref a])) rfl (by rw [hml]; rfl) c2 (argsL := [.ref b, .int (Int32.ofNat 0), .int (Int32.ofNat A.slots.size), .null]) (rest := []) rfl rfl (by show 2 * 0 + 0 ≤ _; decide) (hb hbytes d6) (⟨rfl, hB.mv X0.warmed.alike hh0, f1.al X0.warmed.alike, f2.al X0.warmed.alike, hA.mv X0.warmed.alike hh0, s1.there X0.warmed.alike hh0, hz, l0, by omega, l2, fun i hi => by rw [Nat.zero_add]; exact hp i hi⟩)
  have e0 := Got.mv _ s₁ s _ _ hh0.symm (Vm.Alike.refl _) rfl E3
  obtain rfl := e0.1
  have c4 : Steps p.tables e below (s₁.setTop (entryFrame m #[.ref a, .ref b] 2)) (T3.setTop (mkF m 9 #[.val (.ref a), .val (.ref b)] [])) := g3
  exact ⟨T3, none, _, _, _, X3, by simp, rfl, by omega, (fun _ => rfl), e0, fun fs hl => c4.trans (X3.returnOut hexec hret (hb hbytes d9) hl)⟩
theorem pays {l : Launch} {R : Room} {p : Program} {e : Env} {below : List Frame} {s : State} {sargs : Array Value} {len W : Nat} (a : Addr) (D : Cell) (fV fC : Field) (b : Addr) (A : Cell) (z : Int32) (htab : tab.before sargs s = true) (hfr : 4 ≤ R.frames) (hlo : W + 65 ≤ R.locals) :
    Back l R p e below s sargs yN len W (fun A₁ a₁ => A₁.cells + 1 ≤ R.cells ∧ A₁.slots + A.slots.size ≤ R.slots ∧ P a D fV fC b A z a₁ A₁.U) (fun A₁ _ v₁ B₁ => E a D fV fC A v₁ A₁.U B₁.U ∧ B₁.locs = A₁.locs ++ [⟨a, fC.slot⟩, ⟨a, fV.slot⟩] ∧ B₁.cells = A₁.cells + 1 ∧ B₁.slots = A₁.slots + A.slots.size) :=
  (law l a D fV fC b A z).pays htab hfr (by omega)
end New1
end StrChars
namespace StrChars.Road
open Jvm Sem ClassFile Op Lib Jvm.Stand Jvm.Free Jvm.Free.XT
open Jvm.Lib.Cold (StaticIs)
abbrev ST : String := "java/lang/String"
/-- every table word that New1's law asks, flat -/
abbrev words : List Jvm.Cond := [.code New1.yN New1.yB 2 none, .initialized ST, .methodLink ST 27 New4.yN, .instanceMethod New4.yN,
  .code New4.yN New4.yB 6 none, .fieldLink ST 38 ST "COMPACT_STRINGS" "Z", .laysFinal ST ST "value" "[B", .fieldLink ST 9 ST "value" "[B", .laysFinal ST ST "coder" "B", .fieldLink ST 15 ST "coder" "B",
  .methodLink ST 1 Lib.objectInit, .instanceMethod Lib.objectInit, .code Lib.objectInit ⟨#[0xb1]⟩ 1 none, .methodLink ST 177 Cmp3.yN, .static Cmp3.yN, .methodLink ST 47 CodL.yN, .static CodL.yN,
  .code Cmp3.yN Cmp3.yB 6 (some (.array .byte)), .initialized U16, .arrayClass .byte, .methodLink U16 115 Cmp5.yN, .static Cmp5.yN, .code Cmp5.yN Cmp5.yB 7 (some .int), .code CodL.yN CodL.yB 2 (some .byte)]
theorem tab_of {a : Array Value} {s : State} (h : ∀ w ∈ words, w.before a s = true) : New1.tab.before a s = true := by
  have h5 : Cmp5.tab.before a s = true := unparts (wk h (.code Cmp5.yN Cmp5.yB 7 (some .int))) (wks h (.initialized Cmp5.yN.cls :: Cmp5.site))
  have hc : CodL.tab.before a s = true := unparts (wk h (.code CodL.yN CodL.yB 2 (some .byte))) (wks h (.initialized CodL.yN.cls :: CodL.site))
  have q5 : ∀ w ∈ Cmp5.tab :: words, w.before a s = true := fun w hw => (List.mem_cons.mp hw).elim (fun e => e ▸ h5) (h w)
  have h3 : Cmp3.tab.before a s = true := unparts (wk q5 (.code Cmp3.yN Cmp3.yB 6 (some (.array .byte)))) (wks q5 (.initialized Cmp3.yN.cls :: Cmp3.site))
  have q3 : ∀ w ∈ Cmp3.tab :: CodL.tab :: words, w.before a s = true := fun w hw => (List.mem_cons.mp hw).elim (fun e => e ▸ h3) fun hw => (List.mem_cons.mp hw).elim (fun e => e ▸ hc) (h w)
  have h4 : New4.tab.before a s = true := unparts (wk q3 (.code New4.yN New4.yB 6 none)) (wks q3 (.initialized New4.yN.cls :: New4.site))
  have q4 : ∀ w ∈ New4.tab :: words, w.before a s = true := fun w hw => (List.mem_cons.mp hw).elim (fun e => e ▸ h4) (h w)
  exact unparts (wk q4 (.code New1.yN New1.yB 2 none)) (wks q4 (.initialized New1.yN.cls :: New1.site))
/-- the words ride from the start Z to the walk's own state -/
theorem moved {Z s : State} {a0 args : Array Value} (hZ : Z.Warmed39 s.vm) (hw : ∀ d ∈ words, d.before a0 Z = true) : ∀ d ∈ words, d.before args s = true := fun d hd => by
  have q := hw d hd
  have t : ∀ d ∈ words, d = .arrayClass .byte ∨ (d.onTables && d.keepsFace) = true := by decide +kernel
  rcases t d hd with rfl | t
  · exact RoadKit.mvA hZ q
  · exact RoadKit.mv hZ q t
/-- WHAT COMES BACK, over the tables of the start Z: h the heap at the call, h' behind it -/
def Q (Z : State) (x : Addr) (A : Cell) (h : Heap) (v : Option Value) (h' : Heap) (L : List Loc) : Prop := v = none ∧ (∀ y ∈ L, y.base = x) ∧ RoadKit.Keep h h' [x] ∧ h'.size = h.size + 1 ∧ RoadKit.Exa Z h' x ST ∧ RoadKit.Fld Z h' x ST "value" "[B" (.ref h.size) ∧ RoadKit.Fld Z h' x ST "coder" "B" (.int 0) ∧
  (∃ V : Cell, RoadKit.Arr Z h' h.size V .byte ∧ V.vm = .none ∧ Z.vm.findClass "[B" = some V.cls ∧ V.slots.size = A.slots.size ∧ ∀ j, j < A.slots.size → V.slots[j]? = some (.int (lo8 (cv A j)))) ∧
  ∀ (O n d : String) (w : Value), RoadKit.Fld Z h x O n d w → RoadKit.slotOf Z O n d ≠ RoadKit.slotOf Z ST "value" "[B" → RoadKit.slotOf Z O n d ≠ RoadKit.slotOf Z ST "coder" "B" → RoadKit.Fld Z h' x O n d w
/-- **new String(chars) AT A CALL, IN THE ROAD'S FORM**: for specialBack behind newO: x the fresh String, b the char[] with the cell A -/
theorem back {p : Program} {l : Launch} {e : Env} {R : Room} {s : State} {args : Array Value} {below : List Frame} {len W : Nat} {Z : State} {a0 : Array Value} {h : Heap} (hZ : Z.Warmed39 s.vm) (hw : ∀ d ∈ words, d.before a0 Z = true) {kI : Nat} (wi : (Jvm.Cond.instantiable ST kI).before a0 Z = true)
    {x b : Addr} {A : Cell} {z : Int32} {v0 c0 : Value} (E : RoadKit.Exa Z h x ST) (V : RoadKit.Fld Z h x ST "value" "[B" v0) (C : RoadKit.Fld Z h x ST "coder" "B" c0) (K : RoadKit.Arr Z h b A .char) (hty : Typed .char A) (S : RoadKit.Sta Z h ST "COMPACT_STRINGS" "Z" (.int z)) (hz : ¬ z = 0)
    (l0 : 0 < A.slots.size) (l2 : A.slots.size ≤ 536870912) (hp : ∀ i, i < A.slots.size → ¬ 255 < cv A i) (hfr : 4 ≤ R.frames) (hlo : W + 65 ≤ R.locals) :
    Back l R p e below s args New1.yN len W (fun P a => a = #[.ref x, .ref b] ∧ P.U.heap = h ∧ P.cells + 1 ≤ R.cells ∧ P.slots + A.slots.size ≤ R.slots)
      (fun P _ v B => ∃ L, Q Z x A h v B.U.heap L ∧ B.locs = P.locs ++ L ∧ B.cells = P.cells + 1 ∧ B.slots = P.slots + A.slots.size) := by
  intro m meth c P g ig mk a X hg hsize hdg hW hn hp'
  obtain ⟨rfl, rfl, r1, r2⟩ := hp'
  have al : Z.vm.Alike P.U.vm := hZ.alike.trans X.warmed.alike
  obtain ⟨D, cfV, kV, iV, fV, hD, gV, stV, knV, obV, asV, slV⟩ := id V
  obtain ⟨D', cfC, kC, iC, fC, hD', gC, stC, -, -, asC, slC⟩ := id C
  cases hD.symm.trans hD'
  obtain ⟨D2, kD, e1, e2, e3, e4, e5⟩ := id E
  cases hD.symm.trans e1
  obtain ⟨c2, k2, i1, i2, i3, -⟩ := Cond.instantiable_spec wi
  cases e2.symm.trans i1
  cases e3.symm.trans i2
  obtain ⟨kU, u1, u2⟩ := al.2.2 _ _ e3
  have hB : Blank ST x D P.U := ⟨hD, ⟨knV, fun q hq => by rw [hq] at obV; cases obV⟩, by rw [al.findClass]; exact e2, kU, u1, by rw [u2]; exact i3, by rw [u2]; exact e5 i3⟩
  have F1 : Found ST "value" "[B" fV P.U := ⟨SBG.found_only al ⟨cfV, kV, iV, gV⟩, stV⟩
  have F2 : Found ST "coder" "B" fC P.U := ⟨SBG.found_only al ⟨cfC, kC, iC, gC⟩, stC⟩
  have hA : Ch b A P.U := ⟨⟨K.1, State.isArrayOf_alike al K.2.1, K.2.2, by omega⟩, hty⟩
  have hS : StaticIs P.U ST "COMPACT_STRINGS" "Z" (.int z) := by
    obtain ⟨cfS, iS, kS, fS, st, cS, t1, t2, t3, t4, t5, t6, t7⟩ := S
    exact StaticIs.there (s := { Z with heap := P.U.heap }) ⟨cfS, iS, kS, fS, st, cS, t1, t2, t3, t4, t5, (fun q => by rw [q] at t6; cases t6), t7⟩ al rfl
  obtain ⟨v, B, X', ⟨⟨hv, E', V', q1, q2, q3, q4, q5, q6, q7, q8, q9, q10, q11⟩, hl, hc, hs⟩, st⟩ := New1.pays x D fV fC b A z (tab_of (moved hZ hw)) hfr hlo m meth c P g ig mk _ X hg hsize hdg hW hn ⟨r1, r2, rfl, hB, F1, F2, hA, hS, hz, l0, l2, hp⟩
  have al' : Z.vm.Alike B.U.vm := hZ.alike.trans X'.warmed.alike
  have hsz : E'.slots.size = D.slots.size := by
    obtain ⟨-, -, -, kB, w1, w2, w3⟩ := q1
    obtain ⟨kB', y1, y2⟩ := al'.2.2 _ _ e3
    rw [q2.2.1] at w1
    cases w1.symm.trans y1
    rw [w3, e5 i3, y2]
  refine ⟨v, B, X', ⟨_, ⟨hv, ?_, ⟨by omega, fun y cy hy hn' => q10 y cy (by simpa using hn') hy, fun y cy hy => ?_⟩, q11, ⟨E', _, q1.1, by rw [q2.2.1]; exact e2, by rw [q2.2.1]; exact e3, by rw [q2.1]; exact obV, fun _ => by rw [hsz]; exact e5 i3⟩,
    ⟨E', cfV, kV, iV, fV, q1.1, gV, stV, by rw [q2.1]; exact knV, by rw [q2.1]; exact obV, by rw [q2.2.1]; exact asV, q3⟩, ⟨E', cfC, kC, iC, fC, q1.1, gC, stC, by rw [q2.1]; exact knV, by rw [q2.1]; exact obV, by rw [q2.2.1]; exact asC, q4⟩,
    ⟨V', ⟨q5.1, State.isArrayOf_alike al'.symm q5.2.1, q5.2.2.1⟩, q6, by rw [← al'.findClass]; exact q7, q8, fun j hj => by have := q9 j hj; rwa [Nat.zero_add] at this⟩, fun O n d w F n1 n2 => ?_⟩, hl, hc, hs⟩, st⟩
  · intro y hy
    simp only [List.mem_cons, List.not_mem_nil, or_false] at hy
    rcases hy with rfl | rfl <;> rfl
  · by_cases q : y = x
    · subst q
      cases hD.symm.trans hy
      exact ⟨E', q1.1, q2.2.1, q2.1, hsz⟩
    · exact ⟨cy, q10 y cy q hy, rfl, rfl, rfl⟩
  · obtain ⟨D3, cf, k, i, f, g1, g2, g3, g4, g5, g6, g7⟩ := F
    cases hD.symm.trans g1
    simp only [RoadKit.slotOf, g2, gV, gC, Option.map_some, Option.getD_some] at n1 n2
    exact ⟨E', cf, k, i, f, q1.1, g2, g3, by rw [q2.1]; exact g4, by rw [q2.1]; exact g5, by rw [q2.2.1]; exact g6, by rw [q2.2.2 f.slot (by simp [n1, n2])]; exact g7⟩
end StrChars.Road
namespace StrChars.Road
open Jvm Sem ClassFile Op Lib Jvm.Stand Jvm.Free Jvm.Free.XT
/-- WHAT COMES BACK, the byte[] as a list of values -/
def QA (Z : State) (x : Addr) (zn : Int32) (cs : List Int32) (h : Heap) (v : Option Value) (h' : Heap) (L : List Loc) : Prop := v = none ∧ (∀ y ∈ L, y.base = x) ∧ RoadKit.Keep h h' [x] ∧ h'.size = h.size + 1 ∧ RoadKit.Exa Z h' x ST ∧ RoadKit.Fld Z h' x ST "value" "[B" (.ref h.size) ∧ RoadKit.Fld Z h' x ST "coder" "B" (.int 0) ∧
  (∃ kb, Z.vm.findClass "[B" = some kb ∧ RoadKit.Arv Z h' h.size kb .byte zn (cs.map fun c => .int (lo8 c)) (.int 0)) ∧
  ∀ (O n d : String) (w : Value), RoadKit.Fld Z h x O n d w → RoadKit.slotOf Z O n d ≠ RoadKit.slotOf Z ST "value" "[B" → RoadKit.slotOf Z O n d ≠ RoadKit.slotOf Z ST "coder" "B" → RoadKit.Fld Z h' x O n d w
/-- **new String(chars) AT A CALL, THE ARRAYS AS LISTS**: the char[] at b holds cs, not empty, no char above 255 -/
theorem backArv {p : Program} {l : Launch} {e : Env} {R : Room} {s : State} {args : Array Value} {below : List Frame} {len W : Nat} {Z : State} {a0 : Array Value} {h : Heap} (hZ : Z.Warmed39 s.vm) (hw : ∀ d ∈ words, d.before a0 Z = true) {kI : Nat} (wi : (Jvm.Cond.instantiable ST kI).before a0 Z = true)
    {x b : Addr} {k : ClassId} {zn z : Int32} {cs : List Int32} {dv v0 c0 : Value} (E : RoadKit.Exa Z h x ST) (V : RoadKit.Fld Z h x ST "value" "[B" v0) (C : RoadKit.Fld Z h x ST "coder" "B" c0) (K : RoadKit.Arv Z h b k .char zn (cs.map Value.int) dv) (S : RoadKit.Sta Z h ST "COMPACT_STRINGS" "Z" (.int z)) (hz : ¬ z = 0)
    (hlen : zn.toNatClampNeg = cs.length) (h0 : 0 < cs.length) (hbig : cs.length ≤ 536870912) (hall : ∀ c ∈ cs, ¬ 255 < c) (hfr : 4 ≤ R.frames) (hlo : W + 65 ≤ R.locals) :
    Back l R p e below s args New1.yN len W (fun P a => a = #[.ref x, .ref b] ∧ P.U.heap = h ∧ P.cells + 1 ≤ R.cells ∧ P.slots + cs.length ≤ R.slots)
      (fun P _ v B => ∃ L, QA Z x zn cs h v B.U.heap L ∧ B.locs = P.locs ++ L ∧ B.cells = P.cells + 1 ∧ B.slots = P.slots + cs.length) := by
  obtain ⟨A, K1, K2, K3, K4, K5, K6⟩ := K
  have e : A.slots.size = cs.length := K3.trans hlen
  have hat : ∀ (i : Nat) (hi : i < cs.length), A.slots[i]? = some (.int cs[i]) := fun i hi => by rw [K5 i (by omega)]; simp [List.getD_eq_getElem?_getD, hi]
  have hcv : ∀ (i : Nat) (hi : i < cs.length), cv A i = cs[i] := fun i hi => by unfold cv; rw [hat i hi]
  have hty : Typed .char A := fun i v hv => by
    have hi : i < A.slots.size := (Array.getElem?_eq_some_iff.mp hv).1
    have q := K5 i hi
    rw [hv] at q
    rw [Option.some.inj q]
    exact K6 i hi
  refine Back.mono (back hZ hw wi E V C K1 hty S hz (by omega) (by omega) (fun i hi => by rw [hcv i (by omega)]; exact hall _ (List.getElem_mem _)) hfr hlo) (fun P a hp => ⟨hp.1, hp.2.1, hp.2.2.1, by rw [e]; exact hp.2.2.2⟩) (fun P a v B hp hq => ?_)
  obtain ⟨L, ⟨q1, q2, q3, q4, q5, q6, q7, ⟨V', v1, v2, v3, v4, v5⟩, q9⟩, hl, hc, hs⟩ := hq
  refine ⟨L, ⟨q1, q2, q3, q4, q5, q6, q7, ⟨V'.cls, v3, V', v1, rfl, by rw [v4, e, hlen], K4, fun i hi => ?_, fun i hi => ?_⟩, q9⟩, hl, hc, by rw [hs, e]⟩
  · have hi' : i < cs.length := by omega
    rw [v5 i (by omega), hcv i hi']; simp [List.getD_eq_getElem?_getD, hi']
  · have hi' : i < cs.length := by omega
    simp only [List.getD_eq_getElem?_getD, List.getElem?_map, List.getElem?_eq_getElem hi', Option.map_some, Option.getD_some]
    exact fits_lo8 _
end StrChars.Road
namespace StrChars.Road
open Jvm Sem ClassFile Op Lib Jvm.Stand Jvm.Free Jvm.Free.XT
/-- WHAT COMES BACK, in the writer's own shape -/
def QV (Z : State) (x : Addr) (N : Int32) (bs : List Int32) (h : Heap) (n0 : Nat) (v : Option Value) (h' : Heap) (L : List Loc) : Prop := v = none ∧ RoadKit.Fr n0 L ∧ RoadKit.Keep h h' [x] ∧ RoadKit.Exa Z h' x ST ∧ RoadKit.Fld Z h' x ST "coder" "B" (.int 0) ∧
  ∃ (t : Addr) (kb : ClassId), n0 ≤ t ∧ h.size ≤ t ∧ ¬ t = x ∧ RoadKit.Fld Z h' x ST "value" "[B" (.ref t) ∧ RoadKit.Arv Z h' t kb .byte N (bs.map Value.int) (.int 0)
/-- **new String(chars) AT A CALL, FOR THE WRITER**: a char[] of n known ints, each 0 to 255 -/
theorem backV {p : Program} {l : Launch} {e : Env} {R : Room} {s : State} {args : Array Value} {below : List Frame} {len W : Nat} {Z : State} {a0 : Array Value} {h : Heap} (hZ : Z.Warmed39 s.vm) (hw : ∀ d ∈ words, d.before a0 Z = true) {kI : Nat} (wi : (Jvm.Cond.instantiable ST kI).before a0 Z = true)
    {x b : Addr} {kC : ClassId} {cs bs : List Int32} {d v0 c0 : Value} {z N : Int32} {n n0 : Nat} (hx0 : n0 ≤ x) (hh0 : n0 ≤ h.size) (E : RoadKit.Exa Z h x ST) (V : RoadKit.Fld Z h x ST "value" "[B" v0) (C : RoadKit.Fld Z h x ST "coder" "B" c0) (K : RoadKit.Arv Z h b kC .char N (cs.map Value.int) d) (S : RoadKit.Sta Z h ST "COMPACT_STRINGS" "Z" (.int z)) (hz : ¬ z = 0)
    (hn : cs.length = n) (hN : N = Int32.ofNat n) (l0 : 0 < n) (l2 : n ≤ 4000) (hp : ∀ c ∈ cs, ¬ c < 0 ∧ ¬ (255 : Int32) < c) (hb : bs = cs.map (fun c => c.toInt8.toInt32)) (hfr : 4 ≤ R.frames) (hlo : W + 65 ≤ R.locals) :
    Back l R p e below s args (⟨"java/lang/String", "<init>", "([C)V"⟩ : MethodName) len W (fun P a => a = #[.ref x, .ref b] ∧ P.U.heap = h ∧ P.cells + 1 ≤ R.cells ∧ P.slots + n ≤ R.slots)
      (fun P _ v B => ∃ L, QV Z x N bs h n0 v B.U.heap L ∧ B.locs = P.locs ++ L ∧ B.cells = P.cells + 1 ∧ B.slots = P.slots + n) := by
  subst hn hN hb
  refine Back.mono (backArv hZ hw wi E V C K S hz (n32 (by omega)) l0 (by omega) (fun c hc => (hp c hc).2) hfr hlo) (fun P a hp => hp) (fun P a v B hp hq => ?_)
  obtain ⟨L, ⟨q1, q2, q3, q4, q5, q6, q7, ⟨kb, v1, v2⟩, q9⟩, hl, hc, hs⟩ := hq
  exact ⟨L, ⟨q1, fun y hy => by rw [q2 y hy]; exact hx0, q3, q5, q7, h.size, kb, hh0, Nat.le_refl _, Nat.ne_of_gt E.lt, q6, by rw [List.map_map]; exact v2⟩, hl, hc, hs⟩
end StrChars.Road
end Jvm.Pilot.@@N@@
namespace Jvm.Pilot.@@N@@
open Jvm Jvm.ClassFile Sem Op Lib Jvm.Free Jvm.Stand Jvm.LawKit Jvm.RoadKit Bundle Jvm.Pilot.@@N@@.Jvm.D
theorem w0 {a0 : Array Value} {Z : State} (hw : ∀ d ∈ tables_1, d.before a0 Z = true) : (Jvm.Cond.constant "com/example/deltatrace/deltatrace/LogEventOnRootsPinLaw" (34 : Nat) (2147483647 : Int32)).before a0 Z = true := hw _ (List.mem_of_getElem? (i := 0) rfl)
theorem w1 {a0 : Array Value} {Z : State} (hw : ∀ d ∈ tables_1, d.before a0 Z = true) : (Jvm.Cond.methodLink "com/example/deltatrace/deltatrace/LogEventOnRootsPinLaw" (35 : Nat) ({ cls := "com/example/deltatrace/deltatrace/LogEventOnRootsPinLaw", name := "pick", desc := "(I)Lcom/example/deltatrace/deltatrace/LogEvent$Op;" } : Jvm.MethodName)).before a0 Z = true := hw _ (List.mem_of_getElem? (i := 1) rfl)
theorem w2 {a0 : Array Value} {Z : State} (hw : ∀ d ∈ tables_1, d.before a0 Z = true) : (Jvm.Cond.static ({ cls := "com/example/deltatrace/deltatrace/LogEventOnRootsPinLaw", name := "pick", desc := "(I)Lcom/example/deltatrace/deltatrace/LogEvent$Op;" } : Jvm.MethodName)).before a0 Z = true := hw _ (List.mem_of_getElem? (i := 2) rfl)
theorem w3 {a0 : Array Value} {Z : State} (hw : ∀ d ∈ tables_1, d.before a0 Z = true) : (Jvm.Cond.initialized "com/example/deltatrace/deltatrace/LogEventOnRootsPinLaw").before a0 Z = true := hw _ (List.mem_of_getElem? (i := 3) rfl)
theorem w4 {a0 : Array Value} {Z : State} (hw : ∀ d ∈ tables_1, d.before a0 Z = true) : (Jvm.Cond.code ({ cls := "com/example/deltatrace/deltatrace/LogEventOnRootsPinLaw", name := "pick", desc := "(I)Lcom/example/deltatrace/deltatrace/LogEvent$Op;" } : Jvm.MethodName) method_2_code (1 : Nat) (Option.some (Jvm.ClassFile.FieldType.object "com/example/deltatrace/deltatrace/LogEvent$Op"))).before a0 Z = true := hw _ (List.mem_of_getElem? (i := 4) rfl)
theorem w5 {a0 : Array Value} {Z : State} (hw : ∀ d ∈ tables_1, d.before a0 Z = true) : (Jvm.Cond.fieldLink "com/example/deltatrace/deltatrace/LogEventOnRootsPinLaw" (7 : Nat) "com/example/deltatrace/deltatrace/LogEvent$Op" "SESSION" "Lcom/example/deltatrace/deltatrace/LogEvent$Op;").before a0 Z = true := hw _ (List.mem_of_getElem? (i := 5) rfl)
theorem w6 {a0 : Array Value} {Z : State} (hw : ∀ d ∈ tables_1, d.before a0 Z = true) : (Jvm.Cond.initialized "com/example/deltatrace/deltatrace/LogEvent$Op").before a0 Z = true := hw _ (List.mem_of_getElem? (i := 6) rfl)
theorem w7 {a0 : Array Value} {Z : State} (hw : ∀ d ∈ tables_1, d.before a0 Z = true) : (Jvm.Cond.laysStatic "com/example/deltatrace/deltatrace/LogEvent$Op" "SESSION" "Lcom/example/deltatrace/deltatrace/LogEvent$Op;").before a0 Z = true := hw _ (List.mem_of_getElem? (i := 7) rfl)
theorem w8 {a0 : Array Value} {Z : State} (hw : ∀ d ∈ tables_1, d.before a0 Z = true) : (Jvm.Cond.arrayClass Jvm.ClassFile.FieldType.char).before a0 Z = true := hw _ (List.mem_of_getElem? (i := 8) rfl)
theorem w9 {a0 : Array Value} {Z : State} (hw : ∀ d ∈ tables_1, d.before a0 Z = true) : (Jvm.Cond.classLink "com/example/deltatrace/deltatrace/LogEventOnRootsPinLaw" (41 : Nat) "java/lang/String").before a0 Z = true := hw _ (List.mem_of_getElem? (i := 9) rfl)
theorem w10 {a0 : Array Value} {Z : State} (hw : ∀ d ∈ tables_1, d.before a0 Z = true) : (Jvm.Cond.instantiable "java/lang/String" (4 : Nat)).before a0 Z = true := hw _ (List.mem_of_getElem? (i := 10) rfl)
theorem w11 {a0 : Array Value} {Z : State} (hw : ∀ d ∈ tables_1, d.before a0 Z = true) : (Jvm.Cond.initialized "java/lang/String").before a0 Z = true := hw _ (List.mem_of_getElem? (i := 11) rfl)
theorem w12 {a0 : Array Value} {Z : State} (hw : ∀ d ∈ tables_1, d.before a0 Z = true) : (Jvm.Cond.methodLink "com/example/deltatrace/deltatrace/LogEventOnRootsPinLaw" (43 : Nat) ({ cls := "java/lang/String", name := "<init>", desc := "([C)V" } : Jvm.MethodName)).before a0 Z = true := hw _ (List.mem_of_getElem? (i := 12) rfl)
theorem w13 {a0 : Array Value} {Z : State} (hw : ∀ d ∈ tables_1, d.before a0 Z = true) : (Jvm.Cond.instanceMethod ({ cls := "java/lang/String", name := "<init>", desc := "([C)V" } : Jvm.MethodName)).before a0 Z = true := hw _ (List.mem_of_getElem? (i := 13) rfl)
theorem w14 {a0 : Array Value} {Z : State} (hw : ∀ d ∈ tables_1, d.before a0 Z = true) : (Jvm.Cond.code ({ cls := "java/lang/String", name := "<init>", desc := "([C)V" } : Jvm.MethodName) jdk_42_method_3_code (2 : Nat) (Option.none : Option Jvm.ClassFile.FieldType)).before a0 Z = true := hw _ (List.mem_of_getElem? (i := 14) rfl)
theorem w19 {a0 : Array Value} {Z : State} (hw : ∀ d ∈ tables_1, d.before a0 Z = true) : (Jvm.Cond.methodLink "java/lang/String" (1 : Nat) ({ cls := "java/lang/Object", name := "<init>", desc := "()V" } : Jvm.MethodName)).before a0 Z = true := hw _ (List.mem_of_getElem? (i := 19) rfl)
theorem w20 {a0 : Array Value} {Z : State} (hw : ∀ d ∈ tables_1, d.before a0 Z = true) : (Jvm.Cond.instanceMethod ({ cls := "java/lang/Object", name := "<init>", desc := "()V" } : Jvm.MethodName)).before a0 Z = true := hw _ (List.mem_of_getElem? (i := 20) rfl)
theorem w21 {a0 : Array Value} {Z : State} (hw : ∀ d ∈ tables_1, d.before a0 Z = true) : (Jvm.Cond.code ({ cls := "java/lang/Object", name := "<init>", desc := "()V" } : Jvm.MethodName) object_method_1_code (1 : Nat) (Option.none : Option Jvm.ClassFile.FieldType)).before a0 Z = true := hw _ (List.mem_of_getElem? (i := 21) rfl)
theorem w22 {a0 : Array Value} {Z : State} (hw : ∀ d ∈ tables_1, d.before a0 Z = true) : (Jvm.Cond.fieldLink "java/lang/String" (38 : Nat) "java/lang/String" "COMPACT_STRINGS" "Z").before a0 Z = true := hw _ (List.mem_of_getElem? (i := 22) rfl)
theorem w27 {a0 : Array Value} {Z : State} (hw : ∀ d ∈ tables_1, d.before a0 Z = true) : (Jvm.Cond.arrayClass Jvm.ClassFile.FieldType.byte).before a0 Z = true := hw _ (List.mem_of_getElem? (i := 27) rfl)
theorem w34 {a0 : Array Value} {Z : State} (hw : ∀ d ∈ tables_1, d.before a0 Z = true) : (Jvm.Cond.fieldLink "java/lang/String" (15 : Nat) "java/lang/String" "coder" "B").before a0 Z = true := hw _ (List.mem_of_getElem? (i := 34) rfl)
theorem w35 {a0 : Array Value} {Z : State} (hw : ∀ d ∈ tables_1, d.before a0 Z = true) : (Jvm.Cond.laysFinal "java/lang/String" "java/lang/String" "coder" "B").before a0 Z = true := hw _ (List.mem_of_getElem? (i := 35) rfl)
theorem w36 {a0 : Array Value} {Z : State} (hw : ∀ d ∈ tables_1, d.before a0 Z = true) : (Jvm.Cond.fieldLink "java/lang/String" (9 : Nat) "java/lang/String" "value" "[B").before a0 Z = true := hw _ (List.mem_of_getElem? (i := 36) rfl)
theorem w37 {a0 : Array Value} {Z : State} (hw : ∀ d ∈ tables_1, d.before a0 Z = true) : (Jvm.Cond.laysFinal "java/lang/String" "java/lang/String" "value" "[B").before a0 Z = true := hw _ (List.mem_of_getElem? (i := 37) rfl)
theorem w38 {a0 : Array Value} {Z : State} (hw : ∀ d ∈ tables_1, d.before a0 Z = true) : (Jvm.Cond.classLink "com/example/deltatrace/deltatrace/LogEventOnRootsPinLaw" (57 : Nat) "com/example/deltatrace/deltatrace/LogEvent").before a0 Z = true := hw _ (List.mem_of_getElem? (i := 38) rfl)
theorem w39 {a0 : Array Value} {Z : State} (hw : ∀ d ∈ tables_1, d.before a0 Z = true) : (Jvm.Cond.instantiable "com/example/deltatrace/deltatrace/LogEvent" (10 : Nat)).before a0 Z = true := hw _ (List.mem_of_getElem? (i := 39) rfl)
theorem w40 {a0 : Array Value} {Z : State} (hw : ∀ d ∈ tables_1, d.before a0 Z = true) : (Jvm.Cond.initialized "com/example/deltatrace/deltatrace/LogEvent").before a0 Z = true := hw _ (List.mem_of_getElem? (i := 40) rfl)
theorem w41 {a0 : Array Value} {Z : State} (hw : ∀ d ∈ tables_1, d.before a0 Z = true) : (Jvm.Cond.methodLink "com/example/deltatrace/deltatrace/LogEventOnRootsPinLaw" (59 : Nat) ({ cls := "com/example/deltatrace/deltatrace/LogEvent", name := "<init>", desc := "(ILcom/example/deltatrace/deltatrace/LogEvent$Op;Ljava/lang/String;Ljava/lang/String;Ljava/lang/String;Ljava/lang/Object;Ljava/lang/Object;III)V" } : Jvm.MethodName)).before a0 Z = true := hw _ (List.mem_of_getElem? (i := 41) rfl)
theorem w42 {a0 : Array Value} {Z : State} (hw : ∀ d ∈ tables_1, d.before a0 Z = true) : (Jvm.Cond.instanceMethod ({ cls := "com/example/deltatrace/deltatrace/LogEvent", name := "<init>", desc := "(ILcom/example/deltatrace/deltatrace/LogEvent$Op;Ljava/lang/String;Ljava/lang/String;Ljava/lang/String;Ljava/lang/Object;Ljava/lang/Object;III)V" } : Jvm.MethodName)).before a0 Z = true := hw _ (List.mem_of_getElem? (i := 42) rfl)
theorem w43 {a0 : Array Value} {Z : State} (hw : ∀ d ∈ tables_1, d.before a0 Z = true) : (Jvm.Cond.code ({ cls := "com/example/deltatrace/deltatrace/LogEvent", name := "<init>", desc := "(ILcom/example/deltatrace/deltatrace/LogEvent$Op;Ljava/lang/String;Ljava/lang/String;Ljava/lang/String;Ljava/lang/Object;Ljava/lang/Object;III)V" } : Jvm.MethodName) prog_12_method_1_code (11 : Nat) (Option.none : Option Jvm.ClassFile.FieldType)).before a0 Z = true := hw _ (List.mem_of_getElem? (i := 43) rfl)
theorem w44 {a0 : Array Value} {Z : State} (hw : ∀ d ∈ tables_1, d.before a0 Z = true) : (Jvm.Cond.methodLink "com/example/deltatrace/deltatrace/LogEvent" (1 : Nat) ({ cls := "java/lang/Record", name := "<init>", desc := "()V" } : Jvm.MethodName)).before a0 Z = true := hw _ (List.mem_of_getElem? (i := 44) rfl)
theorem w45 {a0 : Array Value} {Z : State} (hw : ∀ d ∈ tables_1, d.before a0 Z = true) : (Jvm.Cond.instanceMethod ({ cls := "java/lang/Record", name := "<init>", desc := "()V" } : Jvm.MethodName)).before a0 Z = true := hw _ (List.mem_of_getElem? (i := 45) rfl)
theorem w47 {a0 : Array Value} {Z : State} (hw : ∀ d ∈ tables_1, d.before a0 Z = true) : (Jvm.Cond.initialized "java/lang/Record").before a0 Z = true := hw _ (List.mem_of_getElem? (i := 47) rfl)
theorem w48 {a0 : Array Value} {Z : State} (hw : ∀ d ∈ tables_1, d.before a0 Z = true) : (Jvm.Cond.code ({ cls := "java/lang/Record", name := "<init>", desc := "()V" } : Jvm.MethodName) jdk_30_method_1_code (1 : Nat) (Option.none : Option Jvm.ClassFile.FieldType)).before a0 Z = true := hw _ (List.mem_of_getElem? (i := 48) rfl)
theorem w49 {a0 : Array Value} {Z : State} (hw : ∀ d ∈ tables_1, d.before a0 Z = true) : (Jvm.Cond.methodLink "java/lang/Record" (1 : Nat) ({ cls := "java/lang/Object", name := "<init>", desc := "()V" } : Jvm.MethodName)).before a0 Z = true := hw _ (List.mem_of_getElem? (i := 49) rfl)
theorem w50 {a0 : Array Value} {Z : State} (hw : ∀ d ∈ tables_1, d.before a0 Z = true) : (Jvm.Cond.fieldLink "com/example/deltatrace/deltatrace/LogEvent" (7 : Nat) "com/example/deltatrace/deltatrace/LogEvent" "line" "I").before a0 Z = true := hw _ (List.mem_of_getElem? (i := 50) rfl)
theorem w51 {a0 : Array Value} {Z : State} (hw : ∀ d ∈ tables_1, d.before a0 Z = true) : (Jvm.Cond.laysFinal "com/example/deltatrace/deltatrace/LogEvent" "com/example/deltatrace/deltatrace/LogEvent" "line" "I").before a0 Z = true := hw _ (List.mem_of_getElem? (i := 51) rfl)
theorem w52 {a0 : Array Value} {Z : State} (hw : ∀ d ∈ tables_1, d.before a0 Z = true) : (Jvm.Cond.fieldLink "com/example/deltatrace/deltatrace/LogEvent" (13 : Nat) "com/example/deltatrace/deltatrace/LogEvent" "op" "Lcom/example/deltatrace/deltatrace/LogEvent$Op;").before a0 Z = true := hw _ (List.mem_of_getElem? (i := 52) rfl)
theorem w53 {a0 : Array Value} {Z : State} (hw : ∀ d ∈ tables_1, d.before a0 Z = true) : (Jvm.Cond.laysFinal "com/example/deltatrace/deltatrace/LogEvent" "com/example/deltatrace/deltatrace/LogEvent" "op" "Lcom/example/deltatrace/deltatrace/LogEvent$Op;").before a0 Z = true := hw _ (List.mem_of_getElem? (i := 53) rfl)
theorem w54 {a0 : Array Value} {Z : State} (hw : ∀ d ∈ tables_1, d.before a0 Z = true) : (Jvm.Cond.fieldLink "com/example/deltatrace/deltatrace/LogEvent" (17 : Nat) "com/example/deltatrace/deltatrace/LogEvent" "id" "Ljava/lang/String;").before a0 Z = true := hw _ (List.mem_of_getElem? (i := 54) rfl)
theorem w55 {a0 : Array Value} {Z : State} (hw : ∀ d ∈ tables_1, d.before a0 Z = true) : (Jvm.Cond.laysFinal "com/example/deltatrace/deltatrace/LogEvent" "com/example/deltatrace/deltatrace/LogEvent" "id" "Ljava/lang/String;").before a0 Z = true := hw _ (List.mem_of_getElem? (i := 55) rfl)
theorem w56 {a0 : Array Value} {Z : State} (hw : ∀ d ∈ tables_1, d.before a0 Z = true) : (Jvm.Cond.fieldLink "com/example/deltatrace/deltatrace/LogEvent" (21 : Nat) "com/example/deltatrace/deltatrace/LogEvent" "className" "Ljava/lang/String;").before a0 Z = true := hw _ (List.mem_of_getElem? (i := 56) rfl)
theorem w57 {a0 : Array Value} {Z : State} (hw : ∀ d ∈ tables_1, d.before a0 Z = true) : (Jvm.Cond.laysFinal "com/example/deltatrace/deltatrace/LogEvent" "com/example/deltatrace/deltatrace/LogEvent" "className" "Ljava/lang/String;").before a0 Z = true := hw _ (List.mem_of_getElem? (i := 57) rfl)
theorem w58 {a0 : Array Value} {Z : State} (hw : ∀ d ∈ tables_1, d.before a0 Z = true) : (Jvm.Cond.fieldLink "com/example/deltatrace/deltatrace/LogEvent" (24 : Nat) "com/example/deltatrace/deltatrace/LogEvent" "feature" "Ljava/lang/String;").before a0 Z = true := hw _ (List.mem_of_getElem? (i := 58) rfl)
theorem w59 {a0 : Array Value} {Z : State} (hw : ∀ d ∈ tables_1, d.before a0 Z = true) : (Jvm.Cond.laysFinal "com/example/deltatrace/deltatrace/LogEvent" "com/example/deltatrace/deltatrace/LogEvent" "feature" "Ljava/lang/String;").before a0 Z = true := hw _ (List.mem_of_getElem? (i := 59) rfl)
theorem w60 {a0 : Array Value} {Z : State} (hw : ∀ d ∈ tables_1, d.before a0 Z = true) : (Jvm.Cond.fieldLink "com/example/deltatrace/deltatrace/LogEvent" (27 : Nat) "com/example/deltatrace/deltatrace/LogEvent" "value" "Ljava/lang/Object;").before a0 Z = true := hw _ (List.mem_of_getElem? (i := 60) rfl)
theorem w61 {a0 : Array Value} {Z : State} (hw : ∀ d ∈ tables_1, d.before a0 Z = true) : (Jvm.Cond.laysFinal "com/example/deltatrace/deltatrace/LogEvent" "com/example/deltatrace/deltatrace/LogEvent" "value" "Ljava/lang/Object;").before a0 Z = true := hw _ (List.mem_of_getElem? (i := 61) rfl)
theorem w62 {a0 : Array Value} {Z : State} (hw : ∀ d ∈ tables_1, d.before a0 Z = true) : (Jvm.Cond.fieldLink "com/example/deltatrace/deltatrace/LogEvent" (31 : Nat) "com/example/deltatrace/deltatrace/LogEvent" "old" "Ljava/lang/Object;").before a0 Z = true := hw _ (List.mem_of_getElem? (i := 62) rfl)
theorem w63 {a0 : Array Value} {Z : State} (hw : ∀ d ∈ tables_1, d.before a0 Z = true) : (Jvm.Cond.laysFinal "com/example/deltatrace/deltatrace/LogEvent" "com/example/deltatrace/deltatrace/LogEvent" "old" "Ljava/lang/Object;").before a0 Z = true := hw _ (List.mem_of_getElem? (i := 63) rfl)
theorem w64 {a0 : Array Value} {Z : State} (hw : ∀ d ∈ tables_1, d.before a0 Z = true) : (Jvm.Cond.fieldLink "com/example/deltatrace/deltatrace/LogEvent" (34 : Nat) "com/example/deltatrace/deltatrace/LogEvent" "at" "I").before a0 Z = true := hw _ (List.mem_of_getElem? (i := 64) rfl)
theorem w65 {a0 : Array Value} {Z : State} (hw : ∀ d ∈ tables_1, d.before a0 Z = true) : (Jvm.Cond.laysFinal "com/example/deltatrace/deltatrace/LogEvent" "com/example/deltatrace/deltatrace/LogEvent" "at" "I").before a0 Z = true := hw _ (List.mem_of_getElem? (i := 65) rfl)
theorem w66 {a0 : Array Value} {Z : State} (hw : ∀ d ∈ tables_1, d.before a0 Z = true) : (Jvm.Cond.fieldLink "com/example/deltatrace/deltatrace/LogEvent" (37 : Nat) "com/example/deltatrace/deltatrace/LogEvent" "from" "I").before a0 Z = true := hw _ (List.mem_of_getElem? (i := 66) rfl)
theorem w67 {a0 : Array Value} {Z : State} (hw : ∀ d ∈ tables_1, d.before a0 Z = true) : (Jvm.Cond.laysFinal "com/example/deltatrace/deltatrace/LogEvent" "com/example/deltatrace/deltatrace/LogEvent" "from" "I").before a0 Z = true := hw _ (List.mem_of_getElem? (i := 67) rfl)
theorem w68 {a0 : Array Value} {Z : State} (hw : ∀ d ∈ tables_1, d.before a0 Z = true) : (Jvm.Cond.fieldLink "com/example/deltatrace/deltatrace/LogEvent" (40 : Nat) "com/example/deltatrace/deltatrace/LogEvent" "to" "I").before a0 Z = true := hw _ (List.mem_of_getElem? (i := 68) rfl)
theorem w69 {a0 : Array Value} {Z : State} (hw : ∀ d ∈ tables_1, d.before a0 Z = true) : (Jvm.Cond.laysFinal "com/example/deltatrace/deltatrace/LogEvent" "com/example/deltatrace/deltatrace/LogEvent" "to" "I").before a0 Z = true := hw _ (List.mem_of_getElem? (i := 69) rfl)
theorem w70 {a0 : Array Value} {Z : State} (hw : ∀ d ∈ tables_1, d.before a0 Z = true) : (Jvm.Cond.fieldLink "com/example/deltatrace/deltatrace/LogEventOnRootsPinLaw" (25 : Nat) "com/example/deltatrace/deltatrace/LogEvent$Op" "ADD" "Lcom/example/deltatrace/deltatrace/LogEvent$Op;").before a0 Z = true := hw _ (List.mem_of_getElem? (i := 70) rfl)
theorem w71 {a0 : Array Value} {Z : State} (hw : ∀ d ∈ tables_1, d.before a0 Z = true) : (Jvm.Cond.laysStatic "com/example/deltatrace/deltatrace/LogEvent$Op" "ADD" "Lcom/example/deltatrace/deltatrace/LogEvent$Op;").before a0 Z = true := hw _ (List.mem_of_getElem? (i := 71) rfl)
theorem w72 {a0 : Array Value} {Z : State} (hw : ∀ d ∈ tables_1, d.before a0 Z = true) : (Jvm.Cond.fieldLink "com/example/deltatrace/deltatrace/LogEventOnRootsPinLaw" (28 : Nat) "com/example/deltatrace/deltatrace/LogEvent$Op" "REMOVE" "Lcom/example/deltatrace/deltatrace/LogEvent$Op;").before a0 Z = true := hw _ (List.mem_of_getElem? (i := 72) rfl)
theorem w73 {a0 : Array Value} {Z : State} (hw : ∀ d ∈ tables_1, d.before a0 Z = true) : (Jvm.Cond.laysStatic "com/example/deltatrace/deltatrace/LogEvent$Op" "REMOVE" "Lcom/example/deltatrace/deltatrace/LogEvent$Op;").before a0 Z = true := hw _ (List.mem_of_getElem? (i := 73) rfl)
theorem w74 {a0 : Array Value} {Z : State} (hw : ∀ d ∈ tables_1, d.before a0 Z = true) : (Jvm.Cond.fieldLink "com/example/deltatrace/deltatrace/LogEventOnRootsPinLaw" (31 : Nat) "com/example/deltatrace/deltatrace/LogEvent$Op" "MOVE" "Lcom/example/deltatrace/deltatrace/LogEvent$Op;").before a0 Z = true := hw _ (List.mem_of_getElem? (i := 74) rfl)
theorem w75 {a0 : Array Value} {Z : State} (hw : ∀ d ∈ tables_1, d.before a0 Z = true) : (Jvm.Cond.laysStatic "com/example/deltatrace/deltatrace/LogEvent$Op" "MOVE" "Lcom/example/deltatrace/deltatrace/LogEvent$Op;").before a0 Z = true := hw _ (List.mem_of_getElem? (i := 75) rfl)
theorem w76 {a0 : Array Value} {Z : State} (hw : ∀ d ∈ tables_1, d.before a0 Z = true) : (Jvm.Cond.methodLink "com/example/deltatrace/deltatrace/LogEventOnRootsPinLaw" (62 : Nat) ({ cls := "com/example/deltatrace/deltatrace/LogEvent", name := "onRoots", desc := "()Z" } : Jvm.MethodName)).before a0 Z = true := hw _ (List.mem_of_getElem? (i := 76) rfl)
theorem w77 {a0 : Array Value} {Z : State} (hw : ∀ d ∈ tables_1, d.before a0 Z = true) : (Jvm.Cond.declares ({ cls := "com/example/deltatrace/deltatrace/LogEvent", name := "onRoots", desc := "()Z" } : Jvm.MethodName)).before a0 Z = true := hw _ (List.mem_of_getElem? (i := 77) rfl)
theorem w78 {a0 : Array Value} {Z : State} (hw : ∀ d ∈ tables_1, d.before a0 Z = true) : (Jvm.Cond.instanceMethod ({ cls := "com/example/deltatrace/deltatrace/LogEvent", name := "onRoots", desc := "()Z" } : Jvm.MethodName)).before a0 Z = true := hw _ (List.mem_of_getElem? (i := 78) rfl)
theorem w79 {a0 : Array Value} {Z : State} (hw : ∀ d ∈ tables_1, d.before a0 Z = true) : (Jvm.Cond.selects "com/example/deltatrace/deltatrace/LogEvent" ({ cls := "com/example/deltatrace/deltatrace/LogEvent", name := "onRoots", desc := "()Z" } : Jvm.MethodName) ({ cls := "com/example/deltatrace/deltatrace/LogEvent", name := "onRoots", desc := "()Z" } : Jvm.MethodName)).before a0 Z = true := hw _ (List.mem_of_getElem? (i := 79) rfl)
theorem w80 {a0 : Array Value} {Z : State} (hw : ∀ d ∈ tables_1, d.before a0 Z = true) : (Jvm.Cond.code ({ cls := "com/example/deltatrace/deltatrace/LogEvent", name := "onRoots", desc := "()Z" } : Jvm.MethodName) prog_12_method_13_code (1 : Nat) (Option.some Jvm.ClassFile.FieldType.boolean)).before a0 Z = true := hw _ (List.mem_of_getElem? (i := 80) rfl)
theorem w81 {a0 : Array Value} {Z : State} (hw : ∀ d ∈ tables_1, d.before a0 Z = true) : (Jvm.Cond.methodLink "com/example/deltatrace/deltatrace/LogEvent" (84 : Nat) ({ cls := "com/example/deltatrace/deltatrace/LogEvent$Op", name := "onList", desc := "()Z" } : Jvm.MethodName)).before a0 Z = true := hw _ (List.mem_of_getElem? (i := 81) rfl)
theorem w82 {a0 : Array Value} {Z : State} (hw : ∀ d ∈ tables_1, d.before a0 Z = true) : (Jvm.Cond.declares ({ cls := "com/example/deltatrace/deltatrace/LogEvent$Op", name := "onList", desc := "()Z" } : Jvm.MethodName)).before a0 Z = true := hw _ (List.mem_of_getElem? (i := 82) rfl)
theorem w83 {a0 : Array Value} {Z : State} (hw : ∀ d ∈ tables_1, d.before a0 Z = true) : (Jvm.Cond.instanceMethod ({ cls := "com/example/deltatrace/deltatrace/LogEvent$Op", name := "onList", desc := "()Z" } : Jvm.MethodName)).before a0 Z = true := hw _ (List.mem_of_getElem? (i := 83) rfl)
theorem w84 {a0 : Array Value} {Z : State} (hw : ∀ d ∈ tables_1, d.before a0 Z = true) : (Jvm.Cond.selects "com/example/deltatrace/deltatrace/LogEvent$Op" ({ cls := "com/example/deltatrace/deltatrace/LogEvent$Op", name := "onList", desc := "()Z" } : Jvm.MethodName) ({ cls := "com/example/deltatrace/deltatrace/LogEvent$Op", name := "onList", desc := "()Z" } : Jvm.MethodName)).before a0 Z = true := hw _ (List.mem_of_getElem? (i := 84) rfl)
theorem w85 {a0 : Array Value} {Z : State} (hw : ∀ d ∈ tables_1, d.before a0 Z = true) : (Jvm.Cond.code ({ cls := "com/example/deltatrace/deltatrace/LogEvent$Op", name := "onList", desc := "()Z" } : Jvm.MethodName) prog_13_method_6_code (1 : Nat) (Option.some Jvm.ClassFile.FieldType.boolean)).before a0 Z = true := hw _ (List.mem_of_getElem? (i := 85) rfl)
theorem w86 {a0 : Array Value} {Z : State} (hw : ∀ d ∈ tables_1, d.before a0 Z = true) : (Jvm.Cond.fieldLink "com/example/deltatrace/deltatrace/LogEvent$Op" (51 : Nat) "com/example/deltatrace/deltatrace/LogEvent$Op" "onList" "Z").before a0 Z = true := hw _ (List.mem_of_getElem? (i := 86) rfl)
theorem w88 {a0 : Array Value} {Z : State} (hw : ∀ d ∈ tables_1, d.before a0 Z = true) : (Jvm.Cond.fieldLink "com/example/deltatrace/deltatrace/LogEventOnRootsPinLaw" (22 : Nat) "com/example/deltatrace/deltatrace/LogEvent$Op" "UNSET" "Lcom/example/deltatrace/deltatrace/LogEvent$Op;").before a0 Z = true := hw _ (List.mem_of_getElem? (i := 88) rfl)
theorem w89 {a0 : Array Value} {Z : State} (hw : ∀ d ∈ tables_1, d.before a0 Z = true) : (Jvm.Cond.laysStatic "com/example/deltatrace/deltatrace/LogEvent$Op" "UNSET" "Lcom/example/deltatrace/deltatrace/LogEvent$Op;").before a0 Z = true := hw _ (List.mem_of_getElem? (i := 89) rfl)
theorem w90 {a0 : Array Value} {Z : State} (hw : ∀ d ∈ tables_1, d.before a0 Z = true) : (Jvm.Cond.methodLink "com/example/deltatrace/deltatrace/LogEventOnRootsPinLaw" (48 : Nat) ({ cls := "java/lang/String", name := "valueOf", desc := "(C)Ljava/lang/String;" } : Jvm.MethodName)).before a0 Z = true := hw _ (List.mem_of_getElem? (i := 90) rfl)
theorem w91 {a0 : Array Value} {Z : State} (hw : ∀ d ∈ tables_1, d.before a0 Z = true) : (Jvm.Cond.static ({ cls := "java/lang/String", name := "valueOf", desc := "(C)Ljava/lang/String;" } : Jvm.MethodName)).before a0 Z = true := hw _ (List.mem_of_getElem? (i := 91) rfl)
theorem w92 {a0 : Array Value} {Z : State} (hw : ∀ d ∈ tables_1, d.before a0 Z = true) : (Jvm.Cond.code ({ cls := "java/lang/String", name := "valueOf", desc := "(C)Ljava/lang/String;" } : Jvm.MethodName) jdk_42_method_139_code (1 : Nat) (Option.some (Jvm.ClassFile.FieldType.object "java/lang/String"))).before a0 Z = true := hw _ (List.mem_of_getElem? (i := 92) rfl)
theorem w93 {a0 : Array Value} {Z : State} (hw : ∀ d ∈ tables_1, d.before a0 Z = true) : (Jvm.Cond.methodLink "java/lang/String" (1015 : Nat) ({ cls := "java/lang/StringLatin1", name := "canEncode", desc := "(C)Z" } : Jvm.MethodName)).before a0 Z = true := hw _ (List.mem_of_getElem? (i := 93) rfl)
theorem w94 {a0 : Array Value} {Z : State} (hw : ∀ d ∈ tables_1, d.before a0 Z = true) : (Jvm.Cond.static ({ cls := "java/lang/StringLatin1", name := "canEncode", desc := "(C)Z" } : Jvm.MethodName)).before a0 Z = true := hw _ (List.mem_of_getElem? (i := 94) rfl)
theorem w95 {a0 : Array Value} {Z : State} (hw : ∀ d ∈ tables_1, d.before a0 Z = true) : (Jvm.Cond.initialized "java/lang/StringLatin1").before a0 Z = true := hw _ (List.mem_of_getElem? (i := 95) rfl)
theorem w96 {a0 : Array Value} {Z : State} (hw : ∀ d ∈ tables_1, d.before a0 Z = true) : (Jvm.Cond.code ({ cls := "java/lang/StringLatin1", name := "canEncode", desc := "(C)Z" } : Jvm.MethodName) jdk_43_method_3_code (1 : Nat) (Option.some Jvm.ClassFile.FieldType.boolean)).before a0 Z = true := hw _ (List.mem_of_getElem? (i := 96) rfl)
theorem w97 {a0 : Array Value} {Z : State} (hw : ∀ d ∈ tables_1, d.before a0 Z = true) : (Jvm.Cond.classLink "java/lang/String" (10 : Nat) "java/lang/String").before a0 Z = true := hw _ (List.mem_of_getElem? (i := 97) rfl)
theorem w98 {a0 : Array Value} {Z : State} (hw : ∀ d ∈ tables_1, d.before a0 Z = true) : (Jvm.Cond.methodLink "java/lang/String" (1018 : Nat) ({ cls := "java/lang/StringLatin1", name := "toBytes", desc := "(C)[B" } : Jvm.MethodName)).before a0 Z = true := hw _ (List.mem_of_getElem? (i := 98) rfl)
theorem w99 {a0 : Array Value} {Z : State} (hw : ∀ d ∈ tables_1, d.before a0 Z = true) : (Jvm.Cond.static ({ cls := "java/lang/StringLatin1", name := "toBytes", desc := "(C)[B" } : Jvm.MethodName)).before a0 Z = true := hw _ (List.mem_of_getElem? (i := 99) rfl)
theorem w100 {a0 : Array Value} {Z : State} (hw : ∀ d ∈ tables_1, d.before a0 Z = true) : (Jvm.Cond.code ({ cls := "java/lang/StringLatin1", name := "toBytes", desc := "(C)[B" } : Jvm.MethodName) jdk_43_method_46_code (1 : Nat) (Option.some (Jvm.ClassFile.FieldType.array Jvm.ClassFile.FieldType.byte))).before a0 Z = true := hw _ (List.mem_of_getElem? (i := 100) rfl)
theorem w101 {a0 : Array Value} {Z : State} (hw : ∀ d ∈ tables_1, d.before a0 Z = true) : (Jvm.Cond.methodLink "java/lang/String" (209 : Nat) ({ cls := "java/lang/String", name := "<init>", desc := "([BB)V" } : Jvm.MethodName)).before a0 Z = true := hw _ (List.mem_of_getElem? (i := 101) rfl)
theorem w102 {a0 : Array Value} {Z : State} (hw : ∀ d ∈ tables_1, d.before a0 Z = true) : (Jvm.Cond.instanceMethod ({ cls := "java/lang/String", name := "<init>", desc := "([BB)V" } : Jvm.MethodName)).before a0 Z = true := hw _ (List.mem_of_getElem? (i := 102) rfl)
theorem w103 {a0 : Array Value} {Z : State} (hw : ∀ d ∈ tables_1, d.before a0 Z = true) : (Jvm.Cond.code ({ cls := "java/lang/String", name := "<init>", desc := "([BB)V" } : Jvm.MethodName) jdk_42_method_151_code (3 : Nat) (Option.none : Option Jvm.ClassFile.FieldType)).before a0 Z = true := hw _ (List.mem_of_getElem? (i := 103) rfl)
theorem w104 {a0 : Array Value} {Z : State} (hw : ∀ d ∈ tables_1, d.before a0 Z = true) : (Jvm.Cond.stringLink "com/example/deltatrace/deltatrace/LogEventOnRootsPinLaw" (46 : Nat) "").before a0 Z = true := hw _ (List.mem_of_getElem? (i := 104) rfl)
theorem w105 {a0 : Array Value} {Z : State} (hw : ∀ d ∈ tables_1, d.before a0 Z = true) : (Jvm.Cond.soleField "java/lang/String" "value").before a0 Z = true := hw _ (List.mem_of_getElem? (i := 105) rfl)
theorem w106 {a0 : Array Value} {Z : State} (hw : ∀ d ∈ tables_1, d.before a0 Z = true) : (Jvm.Cond.soleField "java/lang/String" "coder").before a0 Z = true := hw _ (List.mem_of_getElem? (i := 106) rfl)
theorem w107 {a0 : Array Value} {Z : State} (hw : ∀ d ∈ tables_1, d.before a0 Z = true) : (Jvm.Cond.methodLink "com/example/deltatrace/deltatrace/LogEventOnRootsPinLaw" (52 : Nat) ({ cls := "java/lang/Long", name := "valueOf", desc := "(J)Ljava/lang/Long;" } : Jvm.MethodName)).before a0 Z = true := hw _ (List.mem_of_getElem? (i := 107) rfl)
theorem w108 {a0 : Array Value} {Z : State} (hw : ∀ d ∈ tables_1, d.before a0 Z = true) : (Jvm.Cond.static ({ cls := "java/lang/Long", name := "valueOf", desc := "(J)Ljava/lang/Long;" } : Jvm.MethodName)).before a0 Z = true := hw _ (List.mem_of_getElem? (i := 108) rfl)
theorem w109 {a0 : Array Value} {Z : State} (hw : ∀ d ∈ tables_1, d.before a0 Z = true) : (Jvm.Cond.initialized "java/lang/Long").before a0 Z = true := hw _ (List.mem_of_getElem? (i := 109) rfl)
theorem w110 {a0 : Array Value} {Z : State} (hw : ∀ d ∈ tables_1, d.before a0 Z = true) : (Jvm.Cond.code ({ cls := "java/lang/Long", name := "valueOf", desc := "(J)Ljava/lang/Long;" } : Jvm.MethodName) jdk_35_method_24_code (3 : Nat) (Option.some (Jvm.ClassFile.FieldType.object "java/lang/Long"))).before a0 Z = true := hw _ (List.mem_of_getElem? (i := 110) rfl)
theorem w111 {a0 : Array Value} {Z : State} (hw : ∀ d ∈ tables_1, d.before a0 Z = true) : (Jvm.Cond.constantLong "java/lang/Long" (230 : Nat) (-128 : Int64)).before a0 Z = true := hw _ (List.mem_of_getElem? (i := 111) rfl)
theorem w112 {a0 : Array Value} {Z : State} (hw : ∀ d ∈ tables_1, d.before a0 Z = true) : (Jvm.Cond.constantLong "java/lang/Long" (232 : Nat) (127 : Int64)).before a0 Z = true := hw _ (List.mem_of_getElem? (i := 112) rfl)
theorem w113 {a0 : Array Value} {Z : State} (hw : ∀ d ∈ tables_1, d.before a0 Z = true) : (Jvm.Cond.fieldLink "java/lang/Long" (234 : Nat) "java/lang/Long$LongCache" "cache" "[Ljava/lang/Long;").before a0 Z = true := hw _ (List.mem_of_getElem? (i := 113) rfl)
theorem w115 {a0 : Array Value} {Z : State} (hw : ∀ d ∈ tables_1, d.before a0 Z = true) : (Jvm.Cond.fieldLink "com/example/deltatrace/deltatrace/LogEventOnRootsPinLaw" (16 : Nat) "com/example/deltatrace/deltatrace/LogEvent$Op" "DELETE" "Lcom/example/deltatrace/deltatrace/LogEvent$Op;").before a0 Z = true := hw _ (List.mem_of_getElem? (i := 115) rfl)
theorem w116 {a0 : Array Value} {Z : State} (hw : ∀ d ∈ tables_1, d.before a0 Z = true) : (Jvm.Cond.laysStatic "com/example/deltatrace/deltatrace/LogEvent$Op" "DELETE" "Lcom/example/deltatrace/deltatrace/LogEvent$Op;").before a0 Z = true := hw _ (List.mem_of_getElem? (i := 116) rfl)
theorem w117 {a0 : Array Value} {Z : State} (hw : ∀ d ∈ tables_1, d.before a0 Z = true) : (Jvm.Cond.classLink "java/lang/Long" (1 : Nat) "java/lang/Long").before a0 Z = true := hw _ (List.mem_of_getElem? (i := 117) rfl)
theorem w118 {a0 : Array Value} {Z : State} (hw : ∀ d ∈ tables_1, d.before a0 Z = true) : (Jvm.Cond.instantiable "java/lang/Long" (1 : Nat)).before a0 Z = true := hw _ (List.mem_of_getElem? (i := 118) rfl)
theorem w119 {a0 : Array Value} {Z : State} (hw : ∀ d ∈ tables_1, d.before a0 Z = true) : (Jvm.Cond.methodLink "java/lang/Long" (240 : Nat) ({ cls := "java/lang/Long", name := "<init>", desc := "(J)V" } : Jvm.MethodName)).before a0 Z = true := hw _ (List.mem_of_getElem? (i := 119) rfl)
theorem w120 {a0 : Array Value} {Z : State} (hw : ∀ d ∈ tables_1, d.before a0 Z = true) : (Jvm.Cond.instanceMethod ({ cls := "java/lang/Long", name := "<init>", desc := "(J)V" } : Jvm.MethodName)).before a0 Z = true := hw _ (List.mem_of_getElem? (i := 120) rfl)
theorem w122 {a0 : Array Value} {Z : State} (hw : ∀ d ∈ tables_1, d.before a0 Z = true) : (Jvm.Cond.code ({ cls := "java/lang/Long", name := "<init>", desc := "(J)V" } : Jvm.MethodName) jdk_35_method_26_code (3 : Nat) (Option.none : Option Jvm.ClassFile.FieldType)).before a0 Z = true := hw _ (List.mem_of_getElem? (i := 122) rfl)
theorem w123 {a0 : Array Value} {Z : State} (hw : ∀ d ∈ tables_1, d.before a0 Z = true) : (Jvm.Cond.methodLink "java/lang/Long" (270 : Nat) ({ cls := "java/lang/Number", name := "<init>", desc := "()V" } : Jvm.MethodName)).before a0 Z = true := hw _ (List.mem_of_getElem? (i := 123) rfl)
theorem w124 {a0 : Array Value} {Z : State} (hw : ∀ d ∈ tables_1, d.before a0 Z = true) : (Jvm.Cond.instanceMethod ({ cls := "java/lang/Number", name := "<init>", desc := "()V" } : Jvm.MethodName)).before a0 Z = true := hw _ (List.mem_of_getElem? (i := 124) rfl)
theorem w127 {a0 : Array Value} {Z : State} (hw : ∀ d ∈ tables_1, d.before a0 Z = true) : (Jvm.Cond.initialized "java/lang/Number").before a0 Z = true := hw _ (List.mem_of_getElem? (i := 127) rfl)
theorem w128 {a0 : Array Value} {Z : State} (hw : ∀ d ∈ tables_1, d.before a0 Z = true) : (Jvm.Cond.code ({ cls := "java/lang/Number", name := "<init>", desc := "()V" } : Jvm.MethodName) jdk_18_method_1_code (1 : Nat) (Option.none : Option Jvm.ClassFile.FieldType)).before a0 Z = true := hw _ (List.mem_of_getElem? (i := 128) rfl)
theorem w129 {a0 : Array Value} {Z : State} (hw : ∀ d ∈ tables_1, d.before a0 Z = true) : (Jvm.Cond.methodLink "java/lang/Number" (1 : Nat) ({ cls := "java/lang/Object", name := "<init>", desc := "()V" } : Jvm.MethodName)).before a0 Z = true := hw _ (List.mem_of_getElem? (i := 129) rfl)
theorem w130 {a0 : Array Value} {Z : State} (hw : ∀ d ∈ tables_1, d.before a0 Z = true) : (Jvm.Cond.fieldLink "java/lang/Long" (273 : Nat) "java/lang/Long" "value" "J").before a0 Z = true := hw _ (List.mem_of_getElem? (i := 130) rfl)
theorem w131 {a0 : Array Value} {Z : State} (hw : ∀ d ∈ tables_1, d.before a0 Z = true) : (Jvm.Cond.laysFinal "java/lang/Long" "java/lang/Long" "value" "J").before a0 Z = true := hw _ (List.mem_of_getElem? (i := 131) rfl)
theorem w132 {a0 : Array Value} {Z : State} (hw : ∀ d ∈ tables_1, d.before a0 Z = true) : (Jvm.Cond.fieldLink "com/example/deltatrace/deltatrace/LogEventOnRootsPinLaw" (19 : Nat) "com/example/deltatrace/deltatrace/LogEvent$Op" "SET" "Lcom/example/deltatrace/deltatrace/LogEvent$Op;").before a0 Z = true := hw _ (List.mem_of_getElem? (i := 132) rfl)
theorem w133 {a0 : Array Value} {Z : State} (hw : ∀ d ∈ tables_1, d.before a0 Z = true) : (Jvm.Cond.laysStatic "com/example/deltatrace/deltatrace/LogEvent$Op" "SET" "Lcom/example/deltatrace/deltatrace/LogEvent$Op;").before a0 Z = true := hw _ (List.mem_of_getElem? (i := 133) rfl)
theorem w134 {a0 : Array Value} {Z : State} (hw : ∀ d ∈ tables_1, d.before a0 Z = true) : (Jvm.Cond.fieldLink "com/example/deltatrace/deltatrace/LogEventOnRootsPinLaw" (13 : Nat) "com/example/deltatrace/deltatrace/LogEvent$Op" "CREATE" "Lcom/example/deltatrace/deltatrace/LogEvent$Op;").before a0 Z = true := hw _ (List.mem_of_getElem? (i := 134) rfl)
theorem w135 {a0 : Array Value} {Z : State} (hw : ∀ d ∈ tables_1, d.before a0 Z = true) : (Jvm.Cond.laysStatic "com/example/deltatrace/deltatrace/LogEvent$Op" "CREATE" "Lcom/example/deltatrace/deltatrace/LogEvent$Op;").before a0 Z = true := hw _ (List.mem_of_getElem? (i := 135) rfl)
theorem pd___V : parseMethodDescriptor "()V" = some ⟨[], none⟩ := by decide +kernel
theorem pd___Z : parseMethodDescriptor "()Z" = some ⟨[], (some .boolean)⟩ := by decide +kernel
theorem pd__C_Z : parseMethodDescriptor "(C)Z" = some ⟨[.char], (some .boolean)⟩ := by decide +kernel
theorem pd__C__B : parseMethodDescriptor "(C)[B" = some ⟨[.char], (some (.array .byte))⟩ := by decide +kernel
theorem pd___BB_V : parseMethodDescriptor "([BB)V" = some ⟨[(.array .byte), .byte], none⟩ := by decide +kernel
theorem pd__J_V : parseMethodDescriptor "(J)V" = some ⟨[.long], none⟩ := by decide +kernel
theorem pd__ILcom_example_deltatrace_deltatrace_LogEvent_Op_Ljava_lang_String_Ljava_lang_String_Ljava_lang_String_Ljava_lang_Object_Ljava_lang_Object_III_V : parseMethodDescriptor "(ILcom/example/deltatrace/deltatrace/LogEvent$Op;Ljava/lang/String;Ljava/lang/String;Ljava/lang/String;Ljava/lang/Object;Ljava/lang/Object;III)V" = some ⟨[.int, (.object "com/example/deltatrace/deltatrace/LogEvent$Op"), (.object "java/lang/String"), (.object "java/lang/String"), (.object "java/lang/String"), (.object "java/lang/Object"), (.object "java/lang/Object"), .int, .int, .int], none⟩ := by decide +kernel
theorem pd__I_Lcom_example_deltatrace_deltatrace_LogEvent_Op_ : parseMethodDescriptor "(I)Lcom/example/deltatrace/deltatrace/LogEvent$Op;" = some ⟨[.int], (some (.object "com/example/deltatrace/deltatrace/LogEvent$Op"))⟩ := by decide +kernel
theorem pd___C_V : parseMethodDescriptor "([C)V" = some ⟨[(.array .char)], none⟩ := by decide +kernel
theorem pd__C_Ljava_lang_String_ : parseMethodDescriptor "(C)Ljava/lang/String;" = some ⟨[.char], (some (.object "java/lang/String"))⟩ := by decide +kernel
theorem pd__J_Ljava_lang_Long_ : parseMethodDescriptor "(J)Ljava/lang/Long;" = some ⟨[.long], (some (.object "java/lang/Long"))⟩ := by decide +kernel
theorem pn_com_example_deltatrace_deltatrace_LogEventOnRootsPinLaw : plainName "com/example/deltatrace/deltatrace/LogEventOnRootsPinLaw" = true := by first | (simp [plainName, overriddenIn]; done) | decide +kernel
theorem pn_java_lang_Record : plainName "java/lang/Record" = true := by first | (simp [plainName, overriddenIn]; done) | decide +kernel
theorem pn_java_lang_Number : plainName "java/lang/Number" = true := by first | (simp [plainName, overriddenIn]; done) | decide +kernel
theorem pn_com_example_deltatrace_deltatrace_LogEvent : plainName "com/example/deltatrace/deltatrace/LogEvent" = true := by first | (simp [plainName, overriddenIn]; done) | decide +kernel
theorem pn_com_example_deltatrace_deltatrace_LogEvent_Op : plainName "com/example/deltatrace/deltatrace/LogEvent$Op" = true := by first | (simp [plainName, overriddenIn]; done) | decide +kernel
theorem pn_java_lang_StringLatin1 : plainName "java/lang/StringLatin1" = true := by first | (simp [plainName, overriddenIn]; done) | decide +kernel
theorem pn_java_lang_String : plainName "java/lang/String" = true := by first | (simp [plainName, overriddenIn]; done) | decide +kernel
theorem pn_java_lang_Long : plainName "java/lang/Long" = true := by first | (simp [plainName, overriddenIn]; done) | decide +kernel

theorem own_nneg {n : Int32} (h : 0 ≤ n.toInt) : ¬ n < (0 : Int32) := fun q => by
  have := Int32.lt_iff_toInt_lt.mp q
  have e : (0 : Int32).toInt = 0 := by decide
  omega
theorem own_nlt {x y : Int32} (h : y.toInt ≤ x.toInt) : ¬ x < y := fun q => by
  have := Int32.lt_iff_toInt_lt.mp q; omega
theorem own_lt {x y : Int32} (h : x.toInt < y.toInt) : x < y := Int32.lt_iff_toInt_lt.mpr h
theorem own_m255 (x : Int32) : 0 ≤ (x &&& (255 : Int32)).toInt ∧ (x &&& (255 : Int32)).toInt ≤ 255 := c_and x 255 (by decide)
/-- a char below 256 is what castore lays of it -/
theorem own_narc {x : Int32} (h1 : 0 ≤ x.toInt) (h2 : x.toInt ≤ 65535) : nar .char x = x := by
  have e : (x.toUInt32.toUInt16.toUInt32.toInt32.toInt - x.toInt) % 65536 = 0 := (c_i2c x).1
  have r := (c_i2c x).2
  have : nar .char x = x.toUInt32.toUInt16.toUInt32.toInt32 := rfl
  rw [this]
  exact Int32.toInt_inj.mp (by omega)
theorem own_i2c {x : Int32} (h1 : 0 ≤ x.toInt) (h2 : x.toInt ≤ 65535) : x.toUInt32.toUInt16.toUInt32.toInt32 = x := own_narc h1 h2

theorem own_cache {x : Int64} (h1 : ¬ lcmpW x (-128 : Int64) < (0 : Int32)) (h2 : ¬ (0 : Int32) < lcmpW x (127 : Int64)) : ¬ ((x.toInt32) + (128 : Int32) < (0 : Int32)) ∧ (x.toInt32) + (128 : Int32) < (256 : Int32) := by
  have a1 : -128 ≤ x.toInt := by
    have := mt (lw_lt x (-128)).mpr h1
    rw [Int64.lt_iff_toInt_lt, show (-128 : Int64).toInt = -128 by decide] at this; omega
  have a2 : x.toInt ≤ 127 := by
    have := mt (lw_gt x 127).mpr h2
    rw [Int64.lt_iff_toInt_lt, show (127 : Int64).toInt = 127 by decide] at this; omega
  have e1 := c_l2i x
  have e2 := c_iadd (x.toInt32) (128 : Int32)
  have e3 : (128 : Int32).toInt = 128 := by decide
  have r1 := rng32 (x.toInt32)
  have r2 := rng32 ((x.toInt32) + (128 : Int32))
  constructor
  · exact own_nneg (by omega)
  · exact own_lt (by rw [show (256 : Int32).toInt = 256 by decide]; omega)

theorem own_cref {u : Value} (r : u.isRef = true) : u.category = 1 := by cases u <;> simp [Value.isRef] at r <;> rfl

theorem own_hp2 {x y : Int32} : ∀ c ∈ [x &&& (255 : Int32), y &&& (255 : Int32)], ¬ c < 0 ∧ ¬ (255 : Int32) < c := fun c hc => by
  simp only [List.mem_cons, List.not_mem_nil, or_false] at hc
  rcases hc with rfl | rfl
  · exact ⟨own_nneg (own_m255 _).1, own_nlt (by show _ ≤ (255 : Int32).toInt; exact (own_m255 _).2)⟩
  · exact ⟨own_nneg (own_m255 _).1, own_nlt (by show _ ≤ (255 : Int32).toInt; exact (own_m255 _).2)⟩
theorem own_n255 (x : Int32) : nar .char (x &&& (255 : Int32)) = x &&& (255 : Int32) := own_narc (own_m255 x).1 (by have := (own_m255 x).2; omega)
def own_P (Z : State) (o5 o6 o7 x : Addr) : Prop := Exa Z Z.heap x "com/example/deltatrace/deltatrace/LogEvent$Op" ∧ ((Fld Z Z.heap x "com/example/deltatrace/deltatrace/LogEvent$Op" "onList" "Z" (.int 0) ∧ x ≠ o5 ∧ x ≠ o6 ∧ x ≠ o7) ∨ (Fld Z Z.heap x "com/example/deltatrace/deltatrace/LogEvent$Op" "onList" "Z" (.int 1) ∧ (x = o5 ∨ x = o6 ∨ x = o7)))
theorem own_P0 {Z : State} {o5 o6 o7 x : Addr} (E : Exa Z Z.heap x "com/example/deltatrace/deltatrace/LogEvent$Op") (F : Fld Z Z.heap x "com/example/deltatrace/deltatrace/LogEvent$Op" "onList" "Z" (.int 0)) (F5 : Fld Z Z.heap o5 "com/example/deltatrace/deltatrace/LogEvent$Op" "onList" "Z" (.int 1)) (F6 : Fld Z Z.heap o6 "com/example/deltatrace/deltatrace/LogEvent$Op" "onList" "Z" (.int 1)) (F7 : Fld Z Z.heap o7 "com/example/deltatrace/deltatrace/LogEvent$Op" "onList" "Z" (.int 1)) : own_P Z o5 o6 o7 x :=
  ⟨E, Or.inl ⟨F, F.ne F5 (by simp), F.ne F6 (by simp), F.ne F7 (by simp)⟩⟩

theorem own_len {args : Array Value} {s : State} {t : Jvm.Term} {a : Addr} {cl : Cell} {ty : FieldType} {n : Int32} {k : Nat} (ev : t.eval args s none [] s = some (.ref a)) (A : Arr s s.heap a cl ty) (h : (Jvm.Term.length t).eval args s none [] s = some (.int n)) (hn : n.toInt = k) : cl.slots.size = k := by
  have hA := A.fin (Vm.Alike.refl _)
  by_cases hl : cl.slots.size < 2 ^ 31
  · have e := (len_f ev hA hl).symm.trans h
    simp only [Option.some.injEq, Value.int.injEq] at e
    have := len_toInt hl
    rw [e, hn] at this
    exact (Int.ofNat.inj this).symm
  · simp [Term.eval, ev, hA, hl] at h
theorem own_strAtoms {a0 : Array Value} {Z : State} (hw : ∀ d ∈ tables_1, d.before a0 Z = true) : ∀ a ∈ Bundle.stringAtoms, a.before a0 Z = true := fun d hd => by
  simp only [Bundle.stringAtoms, Bundle.sN, List.mem_cons, List.not_mem_nil, or_false] at hd
  rcases hd with rfl | rfl | rfl | rfl | rfl | rfl | rfl
  · exact (w11 hw)
  · exact (w10 hw)
  · exact (w27 hw)
  · exact (w37 hw)
  · exact (w35 hw)
  · exact (w105 hw)
  · exact (w106 hw)
theorem own_hws {a0 : Array Value} {Z : State} (hw : ∀ d ∈ tables_1, d.before a0 Z = true) : ∀ d ∈ StrChars.Road.words, d.before a0 Z = true := fun d hd => hw d ((by decide +kernel : ∀ d ∈ StrChars.Road.words, d ∈ tables_1) d hd)

theorem dpick_0 : decode method_2_code 0 = .ok (.iload_n 0, 1) := by decide +kernel
theorem dpick_1 : decode method_2_code 1 = .ok (.ifCond .ne 7, 3) := by decide +kernel
theorem dpick_4 : decode method_2_code 4 = .ok (.getstatic 7, 3) := by decide +kernel
theorem dpick_7 : decode method_2_code 7 = .ok (.areturn, 1) := by decide +kernel
theorem dpick_8 : decode method_2_code 8 = .ok (.iload_n 0, 1) := by decide +kernel
theorem dpick_9 : decode method_2_code 9 = .ok (.iconst 1, 1) := by decide +kernel
theorem dpick_10 : decode method_2_code 10 = .ok (.if_icmp .ne 7, 3) := by decide +kernel
theorem dpick_13 : decode method_2_code 13 = .ok (.getstatic 13, 3) := by decide +kernel
theorem dpick_16 : decode method_2_code 16 = .ok (.areturn, 1) := by decide +kernel
theorem dpick_17 : decode method_2_code 17 = .ok (.iload_n 0, 1) := by decide +kernel
theorem dpick_18 : decode method_2_code 18 = .ok (.iconst 2, 1) := by decide +kernel
theorem dpick_19 : decode method_2_code 19 = .ok (.if_icmp .ne 7, 3) := by decide +kernel
theorem dpick_22 : decode method_2_code 22 = .ok (.getstatic 16, 3) := by decide +kernel
theorem dpick_25 : decode method_2_code 25 = .ok (.areturn, 1) := by decide +kernel
theorem dpick_26 : decode method_2_code 26 = .ok (.iload_n 0, 1) := by decide +kernel
theorem dpick_27 : decode method_2_code 27 = .ok (.iconst 3, 1) := by decide +kernel
theorem dpick_28 : decode method_2_code 28 = .ok (.if_icmp .ne 7, 3) := by decide +kernel
theorem dpick_31 : decode method_2_code 31 = .ok (.getstatic 19, 3) := by decide +kernel
theorem dpick_34 : decode method_2_code 34 = .ok (.areturn, 1) := by decide +kernel
theorem dpick_35 : decode method_2_code 35 = .ok (.iload_n 0, 1) := by decide +kernel
theorem dpick_36 : decode method_2_code 36 = .ok (.iconst 4, 1) := by decide +kernel
theorem dpick_37 : decode method_2_code 37 = .ok (.if_icmp .ne 7, 3) := by decide +kernel
theorem dpick_40 : decode method_2_code 40 = .ok (.getstatic 22, 3) := by decide +kernel
theorem dpick_43 : decode method_2_code 43 = .ok (.areturn, 1) := by decide +kernel
theorem dpick_44 : decode method_2_code 44 = .ok (.iload_n 0, 1) := by decide +kernel
theorem dpick_45 : decode method_2_code 45 = .ok (.iconst 5, 1) := by decide +kernel
theorem dpick_46 : decode method_2_code 46 = .ok (.if_icmp .ne 7, 3) := by decide +kernel
theorem dpick_49 : decode method_2_code 49 = .ok (.getstatic 25, 3) := by decide +kernel
theorem dpick_52 : decode method_2_code 52 = .ok (.areturn, 1) := by decide +kernel
theorem dpick_53 : decode method_2_code 53 = .ok (.iload_n 0, 1) := by decide +kernel
theorem dpick_54 : decode method_2_code 54 = .ok (.bipush 6, 2) := by decide +kernel
theorem dpick_56 : decode method_2_code 56 = .ok (.if_icmp .ne 7, 3) := by decide +kernel
theorem dpick_59 : decode method_2_code 59 = .ok (.getstatic 28, 3) := by decide +kernel
theorem dpick_62 : decode method_2_code 62 = .ok (.areturn, 1) := by decide +kernel
theorem dpick_63 : decode method_2_code 63 = .ok (.getstatic 31, 3) := by decide +kernel
theorem dpick_66 : decode method_2_code 66 = .ok (.areturn, 1) := by decide +kernel
set_option maxRecDepth 65536 in
set_option maxHeartbeats 40000000 in
theorem rm_pick (l : Launch) (Z : State) (a0 : Array Value) (hw : ∀ d ∈ tables_1, d.before a0 Z = true) (p1 : Int32) (o0 o1 o2 o3 o4 o5 o6 o7 : Addr) (P : Addr → Prop) (h0 : Heap) (O0 : Old Z Z.heap.size h0) (S0 : Sta Z Z.heap "com/example/deltatrace/deltatrace/LogEvent$Op" "SESSION" "Lcom/example/deltatrace/deltatrace/LogEvent$Op;" (.ref o0)) (S1 : Sta Z Z.heap "com/example/deltatrace/deltatrace/LogEvent$Op" "CREATE" "Lcom/example/deltatrace/deltatrace/LogEvent$Op;" (.ref o1)) (S2 : Sta Z Z.heap "com/example/deltatrace/deltatrace/LogEvent$Op" "DELETE" "Lcom/example/deltatrace/deltatrace/LogEvent$Op;" (.ref o2)) (S3 : Sta Z Z.heap "com/example/deltatrace/deltatrace/LogEvent$Op" "SET" "Lcom/example/deltatrace/deltatrace/LogEvent$Op;" (.ref o3)) (S4 : Sta Z Z.heap "com/example/deltatrace/deltatrace/LogEvent$Op" "UNSET" "Lcom/example/deltatrace/deltatrace/LogEvent$Op;" (.ref o4)) (S5 : Sta Z Z.heap "com/example/deltatrace/deltatrace/LogEvent$Op" "ADD" "Lcom/example/deltatrace/deltatrace/LogEvent$Op;" (.ref o5)) (S6 : Sta Z Z.heap "com/example/deltatrace/deltatrace/LogEvent$Op" "REMOVE" "Lcom/example/deltatrace/deltatrace/LogEvent$Op;" (.ref o6)) (S7 : Sta Z Z.heap "com/example/deltatrace/deltatrace/LogEvent$Op" "MOVE" "Lcom/example/deltatrace/deltatrace/LogEvent$Op;" (.ref o7)) (P0 : P o0) (P1 : P o1) (P2 : P o2) (P3 : P o3) (P4 : P o4) (P5 : P o5) (P6 : P o6) (P7 : P o7) :
    own_Con l Z (⟨"com/example/deltatrace/deltatrace/LogEventOnRootsPinLaw", "pick", "(I)Lcom/example/deltatrace/deltatrace/LogEvent$Op;"⟩ : MethodName) method_2_code 1 (some (.object "com/example/deltatrace/deltatrace/LogEvent$Op")) ({ frames := 0, cells := 0, slots := 0, locals := 0 } : Room) #[(.int p1)] h0 (fun v h L => ∃ x, v = some (.ref x) ∧ Fr Z.heap.size L ∧ h = h0 ∧ P x) := by
  refine own_con (ls := #[.val (.int p1)]) (pn_com_example_deltatrace_deltatrace_LogEventOnRootsPinLaw) (fun m => by first | (simp [entryFrame, mkF, argsToLocals, Value.category]; done) | rfl) ?_
  intro p e s m below meth c s₁ hx hby hml0 hown0 hnm0 hret0 hlk hZ X0 e0
  have hml : c.maxLocals = 1 := hml0
  have hown : s.vm.findClass "com/example/deltatrace/deltatrace/LogEventOnRootsPinLaw" = some m.cls := hown0
  have hnm : meth.name = "pick" := hnm0
  have hret : meth.sig.returnType = (some (.object "com/example/deltatrace/deltatrace/LogEvent$Op")) := hret0
  have F1 := Fr.nil Z.heap.size
  have F2 := Keep.refl h0 []
  refine own_step (T' := s₁) (g' := (mkF m 1 #[.val (.int p1)] [(.int p1)])) (fun _ kk => XS.iloadN X0.here hx rfl (hb hby dpick_0) rfl kk) ?_
  by_cases c3 : p1 = (0 : Int32)
  · refine own_step (T' := s₁) (g' := (mkF m 4 #[.val (.int p1)] [])) (fun _ kk => XS.ifNo X0.here hx rfl (hb hby dpick_1) rfl ((if0 _ _).trans (teq c3).2) kk) ?_
    obtain ⟨T4, X4, e4, st4⟩ := getS (host := "") X0 hx hZ hown (w5 hw) Via.refl e0 (S0.ext O0.2) (g := (mkF m 4 #[.val (.int p1)] [])) rfl (hb hby dpick_4)
    refine own_step (T' := T4) (g' := (mkF m 7 #[.val (.int p1)] [(.ref o0)])) (fun _ kk => st4 _ kk) ?_
    exact own_retA X4 hx hlk (t := (.object "com/example/deltatrace/deltatrace/LogEvent$Op")) hret rfl rfl rfl (hb hby dpick_7) e4 ⟨_, rfl, F1, rfl, P0⟩ (by decide) (by decide)
  · refine own_step (T' := s₁) (g' := (mkF m 8 #[.val (.int p1)] [])) (fun _ kk => XS.ifYes X0.here hx rfl (pc0 := 1) (pc' := 8) rfl (hb hby dpick_1) rfl ((if0 _ _).trans (feq c3).2) (by decide) (by decide) kk) ?_
    refine own_step (T' := s₁) (g' := (mkF m 9 #[.val (.int p1)] [(.int p1)])) (fun _ kk => XS.iloadN X0.here hx rfl (hb hby dpick_8) rfl kk) ?_
    refine own_step (T' := s₁) (g' := (mkF m 10 #[.val (.int p1)] [(.int (1 : Int32)), (.int p1)])) (fun _ kk => XS.iconst X0.here hx rfl (hb hby dpick_9) kk) ?_
    by_cases c5 : p1 = (1 : Int32)
    · refine own_step (T' := s₁) (g' := (mkF m 13 #[.val (.int p1)] [])) (fun _ kk => XS.icmpNo X0.here hx rfl (hb hby dpick_10) rfl (teq c5).2 kk) ?_
      obtain ⟨T6, X6, e6, st6⟩ := getS (host := "") X0 hx hZ hown (w134 hw) Via.refl e0 (S1.ext O0.2) (g := (mkF m 13 #[.val (.int p1)] [])) rfl (hb hby dpick_13)
      refine own_step (T' := T6) (g' := (mkF m 16 #[.val (.int p1)] [(.ref o1)])) (fun _ kk => st6 _ kk) ?_
      exact own_retA X6 hx hlk (t := (.object "com/example/deltatrace/deltatrace/LogEvent$Op")) hret rfl rfl rfl (hb hby dpick_16) e6 ⟨_, rfl, F1, rfl, P1⟩ (by decide) (by decide)
    · refine own_step (T' := s₁) (g' := (mkF m 17 #[.val (.int p1)] [])) (fun _ kk => XS.icmpYes X0.here hx rfl (pc0 := 10) (pc' := 17) rfl (hb hby dpick_10) rfl (feq c5).2 (by decide) (by decide) kk) ?_
      refine own_step (T' := s₁) (g' := (mkF m 18 #[.val (.int p1)] [(.int p1)])) (fun _ kk => XS.iloadN X0.here hx rfl (hb hby dpick_17) rfl kk) ?_
      refine own_step (T' := s₁) (g' := (mkF m 19 #[.val (.int p1)] [(.int (2 : Int32)), (.int p1)])) (fun _ kk => XS.iconst X0.here hx rfl (hb hby dpick_18) kk) ?_
      by_cases c7 : p1 = (2 : Int32)
      · refine own_step (T' := s₁) (g' := (mkF m 22 #[.val (.int p1)] [])) (fun _ kk => XS.icmpNo X0.here hx rfl (hb hby dpick_19) rfl (teq c7).2 kk) ?_
        obtain ⟨T8, X8, e8, st8⟩ := getS (host := "") X0 hx hZ hown (w115 hw) Via.refl e0 (S2.ext O0.2) (g := (mkF m 22 #[.val (.int p1)] [])) rfl (hb hby dpick_22)
        refine own_step (T' := T8) (g' := (mkF m 25 #[.val (.int p1)] [(.ref o2)])) (fun _ kk => st8 _ kk) ?_
        exact own_retA X8 hx hlk (t := (.object "com/example/deltatrace/deltatrace/LogEvent$Op")) hret rfl rfl rfl (hb hby dpick_25) e8 ⟨_, rfl, F1, rfl, P2⟩ (by decide) (by decide)
      · refine own_step (T' := s₁) (g' := (mkF m 26 #[.val (.int p1)] [])) (fun _ kk => XS.icmpYes X0.here hx rfl (pc0 := 19) (pc' := 26) rfl (hb hby dpick_19) rfl (feq c7).2 (by decide) (by decide) kk) ?_
        refine own_step (T' := s₁) (g' := (mkF m 27 #[.val (.int p1)] [(.int p1)])) (fun _ kk => XS.iloadN X0.here hx rfl (hb hby dpick_26) rfl kk) ?_
        refine own_step (T' := s₁) (g' := (mkF m 28 #[.val (.int p1)] [(.int (3 : Int32)), (.int p1)])) (fun _ kk => XS.iconst X0.here hx rfl (hb hby dpick_27) kk) ?_
        by_cases c9 : p1 = (3 : Int32)
        · refine own_step (T' := s₁) (g' := (mkF m 31 #[.val (.int p1)] [])) (fun _ kk => XS.icmpNo X0.here hx rfl (hb hby dpick_28) rfl (teq c9).2 kk) ?_
          obtain ⟨T10, X10, e10, st10⟩ := getS (host := "") X0 hx hZ hown (w132 hw) Via.refl e0 (S3.ext O0.2) (g := (mkF m 31 #[.val (.int p1)] [])) rfl (hb hby dpick_31)
          refine own_step (T' := T10) (g' := (mkF m 34 #[.val (.int p1)] [(.ref o3)])) (fun _ kk => st10 _ kk) ?_
          exact own_retA X10 hx hlk (t := (.object "com/example/deltatrace/deltatrace/LogEvent$Op")) hret rfl rfl rfl (hb hby dpick_34) e10 ⟨_, rfl, F1, rfl, P3⟩ (by decide) (by decide)
        · refine own_step (T' := s₁) (g' := (mkF m 35 #[.val (.int p1)] [])) (fun _ kk => XS.icmpYes X0.here hx rfl (pc0 := 28) (pc' := 35) rfl (hb hby dpick_28) rfl (feq c9).2 (by decide) (by decide) kk) ?_
          refine own_step (T' := s₁) (g' := (mkF m 36 #[.val (.int p1)] [(.int p1)])) (fun _ kk => XS.iloadN X0.here hx rfl (hb hby dpick_35) rfl kk) ?_
          refine own_step (T' := s₁) (g' := (mkF m 37 #[.val (.int p1)] [(.int (4 : Int32)), (.int p1)])) (fun _ kk => XS.iconst X0.here hx rfl (hb hby dpick_36) kk) ?_
          by_cases c11 : p1 = (4 : Int32)
          · refine own_step (T' := s₁) (g' := (mkF m 40 #[.val (.int p1)] [])) (fun _ kk => XS.icmpNo X0.here hx rfl (hb hby dpick_37) rfl (teq c11).2 kk) ?_
            obtain ⟨T12, X12, e12, st12⟩ := getS (host := "") X0 hx hZ hown (w88 hw) Via.refl e0 (S4.ext O0.2) (g := (mkF m 40 #[.val (.int p1)] [])) rfl (hb hby dpick_40)
            refine own_step (T' := T12) (g' := (mkF m 43 #[.val (.int p1)] [(.ref o4)])) (fun _ kk => st12 _ kk) ?_
            exact own_retA X12 hx hlk (t := (.object "com/example/deltatrace/deltatrace/LogEvent$Op")) hret rfl rfl rfl (hb hby dpick_43) e12 ⟨_, rfl, F1, rfl, P4⟩ (by decide) (by decide)
          · refine own_step (T' := s₁) (g' := (mkF m 44 #[.val (.int p1)] [])) (fun _ kk => XS.icmpYes X0.here hx rfl (pc0 := 37) (pc' := 44) rfl (hb hby dpick_37) rfl (feq c11).2 (by decide) (by decide) kk) ?_
            refine own_step (T' := s₁) (g' := (mkF m 45 #[.val (.int p1)] [(.int p1)])) (fun _ kk => XS.iloadN X0.here hx rfl (hb hby dpick_44) rfl kk) ?_
            refine own_step (T' := s₁) (g' := (mkF m 46 #[.val (.int p1)] [(.int (5 : Int32)), (.int p1)])) (fun _ kk => XS.iconst X0.here hx rfl (hb hby dpick_45) kk) ?_
            by_cases c13 : p1 = (5 : Int32)
            · refine own_step (T' := s₁) (g' := (mkF m 49 #[.val (.int p1)] [])) (fun _ kk => XS.icmpNo X0.here hx rfl (hb hby dpick_46) rfl (teq c13).2 kk) ?_
              obtain ⟨T14, X14, e14, st14⟩ := getS (host := "") X0 hx hZ hown (w70 hw) Via.refl e0 (S5.ext O0.2) (g := (mkF m 49 #[.val (.int p1)] [])) rfl (hb hby dpick_49)
              refine own_step (T' := T14) (g' := (mkF m 52 #[.val (.int p1)] [(.ref o5)])) (fun _ kk => st14 _ kk) ?_
              exact own_retA X14 hx hlk (t := (.object "com/example/deltatrace/deltatrace/LogEvent$Op")) hret rfl rfl rfl (hb hby dpick_52) e14 ⟨_, rfl, F1, rfl, P5⟩ (by decide) (by decide)
            · refine own_step (T' := s₁) (g' := (mkF m 53 #[.val (.int p1)] [])) (fun _ kk => XS.icmpYes X0.here hx rfl (pc0 := 46) (pc' := 53) rfl (hb hby dpick_46) rfl (feq c13).2 (by decide) (by decide) kk) ?_
              refine own_step (T' := s₁) (g' := (mkF m 54 #[.val (.int p1)] [(.int p1)])) (fun _ kk => XS.iloadN X0.here hx rfl (hb hby dpick_53) rfl kk) ?_
              refine own_step (T' := s₁) (g' := (mkF m 56 #[.val (.int p1)] [(.int (6 : Int32)), (.int p1)])) (fun _ kk => XS.bipush X0.here hx rfl (hb hby dpick_54) kk) ?_
              by_cases c15 : p1 = (6 : Int32)
              · refine own_step (T' := s₁) (g' := (mkF m 59 #[.val (.int p1)] [])) (fun _ kk => XS.icmpNo X0.here hx rfl (hb hby dpick_56) rfl (teq c15).2 kk) ?_
                obtain ⟨T16, X16, e16, st16⟩ := getS (host := "") X0 hx hZ hown (w72 hw) Via.refl e0 (S6.ext O0.2) (g := (mkF m 59 #[.val (.int p1)] [])) rfl (hb hby dpick_59)
                refine own_step (T' := T16) (g' := (mkF m 62 #[.val (.int p1)] [(.ref o6)])) (fun _ kk => st16 _ kk) ?_
                exact own_retA X16 hx hlk (t := (.object "com/example/deltatrace/deltatrace/LogEvent$Op")) hret rfl rfl rfl (hb hby dpick_62) e16 ⟨_, rfl, F1, rfl, P6⟩ (by decide) (by decide)
              · refine own_step (T' := s₁) (g' := (mkF m 63 #[.val (.int p1)] [])) (fun _ kk => XS.icmpYes X0.here hx rfl (pc0 := 56) (pc' := 63) rfl (hb hby dpick_56) rfl (feq c15).2 (by decide) (by decide) kk) ?_
                obtain ⟨T17, X17, e17, st17⟩ := getS (host := "") X0 hx hZ hown (w74 hw) Via.refl e0 (S7.ext O0.2) (g := (mkF m 63 #[.val (.int p1)] [])) rfl (hb hby dpick_63)
                refine own_step (T' := T17) (g' := (mkF m 66 #[.val (.int p1)] [(.ref o7)])) (fun _ kk => st17 _ kk) ?_
                exact own_retA X17 hx hlk (t := (.object "com/example/deltatrace/deltatrace/LogEvent$Op")) hret rfl rfl rfl (hb hby dpick_66) e17 ⟨_, rfl, F1, rfl, P7⟩ (by decide) (by decide)
theorem drec_0 : decode jdk_30_method_1_code 0 = .ok (.aload_n 0, 1) := by decide +kernel
theorem drec_1 : decode jdk_30_method_1_code 1 = .ok (.invokespecial 1, 3) := by decide +kernel
theorem drec_4 : decode jdk_30_method_1_code 4 = .ok (.return_, 1) := by decide +kernel
set_option maxRecDepth 65536 in
set_option maxHeartbeats 40000000 in
theorem rm_rec (l : Launch) (Z : State) (a0 : Array Value) (hw : ∀ d ∈ tables_1, d.before a0 Z = true) (a1 : Addr) (h0 : Heap) (O0 : Old Z Z.heap.size h0)  :
    own_Con l Z (⟨"java/lang/Record", "<init>", "()V"⟩ : MethodName) jdk_30_method_1_code 1 none ({ frames := 1, cells := 0, slots := 0, locals := 12 } : Room) #[(.ref a1)] h0 (fun v h L => v = none ∧ Fr Z.heap.size L ∧ h = h0) := by
  refine own_con (ls := #[.val (.ref a1)]) (pn_java_lang_Record) (fun m => by first | (simp [entryFrame, mkF, argsToLocals, Value.category]; done) | rfl) ?_
  intro p e s m below meth c s₁ hx hby hml0 hown0 hnm0 hret0 hlk hZ X0 e0
  have hml : c.maxLocals = 1 := hml0
  have hown : s.vm.findClass "java/lang/Record" = some m.cls := hown0
  have hnm : meth.name = "<init>" := hnm0
  have hret : meth.sig.returnType = none := hret0
  have F18 := Fr.nil Z.heap.size
  have F19 := Keep.refl h0 []
  refine own_step (T' := s₁) (g' := (mkF m 1 #[.val (.ref a1)] [(.ref a1)])) (fun _ kk => XS.aloadN X0.here hx rfl (hb hby drec_0) rfl rfl kk) ?_
  obtain ⟨T20, X20, e20, st20⟩ := initO X0 hx hZ hown (w49 hw) (w20 hw) (w21 hw) e0 (g := (mkF m 1 #[.val (.ref a1)] [(.ref a1)])) rfl (by rw [hml]; rfl) rfl (hb hby drec_1) (by decide) (W := 0) (by show 2 * 0 + _ ≤ _; exact Nat.le_of_eq rfl) (by decide)
  refine own_step (T' := T20) (g' := (mkF m 4 #[.val (.ref a1)] [])) (fun _ kk => st20 _ kk) ?_
  exact own_retV X20 hx hlk hret (hb hby drec_4) e20 ⟨rfl, F18, rfl⟩ (by decide) (by decide)
theorem dnum_0 : decode jdk_18_method_1_code 0 = .ok (.aload_n 0, 1) := by decide +kernel
theorem dnum_1 : decode jdk_18_method_1_code 1 = .ok (.invokespecial 1, 3) := by decide +kernel
theorem dnum_4 : decode jdk_18_method_1_code 4 = .ok (.return_, 1) := by decide +kernel
set_option maxRecDepth 65536 in
set_option maxHeartbeats 40000000 in
theorem rm_num (l : Launch) (Z : State) (a0 : Array Value) (hw : ∀ d ∈ tables_1, d.before a0 Z = true) (a1 : Addr) (h0 : Heap) (O0 : Old Z Z.heap.size h0)  :
    own_Con l Z (⟨"java/lang/Number", "<init>", "()V"⟩ : MethodName) jdk_18_method_1_code 1 none ({ frames := 1, cells := 0, slots := 0, locals := 12 } : Room) #[(.ref a1)] h0 (fun v h L => v = none ∧ Fr Z.heap.size L ∧ h = h0) := by
  refine own_con (ls := #[.val (.ref a1)]) (pn_java_lang_Number) (fun m => by first | (simp [entryFrame, mkF, argsToLocals, Value.category]; done) | rfl) ?_
  intro p e s m below meth c s₁ hx hby hml0 hown0 hnm0 hret0 hlk hZ X0 e0
  have hml : c.maxLocals = 1 := hml0
  have hown : s.vm.findClass "java/lang/Number" = some m.cls := hown0
  have hnm : meth.name = "<init>" := hnm0
  have hret : meth.sig.returnType = none := hret0
  have F21 := Fr.nil Z.heap.size
  have F22 := Keep.refl h0 []
  refine own_step (T' := s₁) (g' := (mkF m 1 #[.val (.ref a1)] [(.ref a1)])) (fun _ kk => XS.aloadN X0.here hx rfl (hb hby dnum_0) rfl rfl kk) ?_
  obtain ⟨T23, X23, e23, st23⟩ := initO X0 hx hZ hown (w129 hw) (w20 hw) (w21 hw) e0 (g := (mkF m 1 #[.val (.ref a1)] [(.ref a1)])) rfl (by rw [hml]; rfl) rfl (hb hby dnum_1) (by decide) (W := 0) (by show 2 * 0 + _ ≤ _; exact Nat.le_of_eq rfl) (by decide)
  refine own_step (T' := T23) (g' := (mkF m 4 #[.val (.ref a1)] [])) (fun _ kk => st23 _ kk) ?_
  exact own_retV X23 hx hlk hret (hb hby dnum_4) e23 ⟨rfl, F21, rfl⟩ (by decide) (by decide)
theorem dle_0 : decode prog_12_method_1_code 0 = .ok (.aload_n 0, 1) := by decide +kernel
theorem dle_1 : decode prog_12_method_1_code 1 = .ok (.invokespecial 1, 3) := by decide +kernel
theorem dle_4 : decode prog_12_method_1_code 4 = .ok (.aload_n 0, 1) := by decide +kernel
theorem dle_5 : decode prog_12_method_1_code 5 = .ok (.iload_n 1, 1) := by decide +kernel
theorem dle_6 : decode prog_12_method_1_code 6 = .ok (.putfield 7, 3) := by decide +kernel
theorem dle_9 : decode prog_12_method_1_code 9 = .ok (.aload_n 0, 1) := by decide +kernel
theorem dle_10 : decode prog_12_method_1_code 10 = .ok (.aload_n 2, 1) := by decide +kernel
theorem dle_11 : decode prog_12_method_1_code 11 = .ok (.putfield 13, 3) := by decide +kernel
theorem dle_14 : decode prog_12_method_1_code 14 = .ok (.aload_n 0, 1) := by decide +kernel
theorem dle_15 : decode prog_12_method_1_code 15 = .ok (.aload_n 3, 1) := by decide +kernel
theorem dle_16 : decode prog_12_method_1_code 16 = .ok (.putfield 17, 3) := by decide +kernel
theorem dle_19 : decode prog_12_method_1_code 19 = .ok (.aload_n 0, 1) := by decide +kernel
theorem dle_20 : decode prog_12_method_1_code 20 = .ok (.aload 4, 2) := by decide +kernel
theorem dle_22 : decode prog_12_method_1_code 22 = .ok (.putfield 21, 3) := by decide +kernel
theorem dle_25 : decode prog_12_method_1_code 25 = .ok (.aload_n 0, 1) := by decide +kernel
theorem dle_26 : decode prog_12_method_1_code 26 = .ok (.aload 5, 2) := by decide +kernel
theorem dle_28 : decode prog_12_method_1_code 28 = .ok (.putfield 24, 3) := by decide +kernel
theorem dle_31 : decode prog_12_method_1_code 31 = .ok (.aload_n 0, 1) := by decide +kernel
theorem dle_32 : decode prog_12_method_1_code 32 = .ok (.aload 6, 2) := by decide +kernel
theorem dle_34 : decode prog_12_method_1_code 34 = .ok (.putfield 27, 3) := by decide +kernel
theorem dle_37 : decode prog_12_method_1_code 37 = .ok (.aload_n 0, 1) := by decide +kernel
theorem dle_38 : decode prog_12_method_1_code 38 = .ok (.aload 7, 2) := by decide +kernel
theorem dle_40 : decode prog_12_method_1_code 40 = .ok (.putfield 31, 3) := by decide +kernel
theorem dle_43 : decode prog_12_method_1_code 43 = .ok (.aload_n 0, 1) := by decide +kernel
theorem dle_44 : decode prog_12_method_1_code 44 = .ok (.iload 8, 2) := by decide +kernel
theorem dle_46 : decode prog_12_method_1_code 46 = .ok (.putfield 34, 3) := by decide +kernel
theorem dle_49 : decode prog_12_method_1_code 49 = .ok (.aload_n 0, 1) := by decide +kernel
theorem dle_50 : decode prog_12_method_1_code 50 = .ok (.iload 9, 2) := by decide +kernel
theorem dle_52 : decode prog_12_method_1_code 52 = .ok (.putfield 37, 3) := by decide +kernel
theorem dle_55 : decode prog_12_method_1_code 55 = .ok (.aload_n 0, 1) := by decide +kernel
theorem dle_56 : decode prog_12_method_1_code 56 = .ok (.iload 10, 2) := by decide +kernel
theorem dle_58 : decode prog_12_method_1_code 58 = .ok (.putfield 40, 3) := by decide +kernel
theorem dle_61 : decode prog_12_method_1_code 61 = .ok (.return_, 1) := by decide +kernel
set_option maxRecDepth 65536 in
set_option maxHeartbeats 40000000 in
theorem rm_le (l : Launch) (Z : State) (a0 : Array Value) (hw : ∀ d ∈ tables_1, d.before a0 Z = true) (a1 : Addr) (p1 : Int32) (x2 : Addr) (u3 u5 u6 : Value) (p8 p9 p10 : Int32) (h0 : Heap) (O0 : Old Z Z.heap.size h0) (O1 : own_Obj Z h0 a1 "com/example/deltatrace/deltatrace/LogEvent") (g1 : Z.heap.size ≤ a1) (r3 : u3.isRef = true) (c3 : u3.category = 1) (r5 : u5.isRef = true) (c5 : u5.category = 1) (r6 : u6.isRef = true) (c6 : u6.category = 1) :
    own_Con l Z (⟨"com/example/deltatrace/deltatrace/LogEvent", "<init>", "(ILcom/example/deltatrace/deltatrace/LogEvent$Op;Ljava/lang/String;Ljava/lang/String;Ljava/lang/String;Ljava/lang/Object;Ljava/lang/Object;III)V"⟩ : MethodName) prog_12_method_1_code 11 none ({ frames := 2, cells := 0, slots := 0, locals := 24 } : Room) #[(.ref a1), (.int p1), (.ref x2), u3, .null, u5, u6, .null, (.int p8), (.int p9), (.int p10)] h0 (fun v h L => v = none ∧ Fr Z.heap.size L ∧ Keep h0 h [a1] ∧ own_Obj Z h a1 "com/example/deltatrace/deltatrace/LogEvent" ∧ Fld Z h a1 "com/example/deltatrace/deltatrace/LogEvent" "op" "Lcom/example/deltatrace/deltatrace/LogEvent$Op;" (.ref x2) ∧ Fld Z h a1 "com/example/deltatrace/deltatrace/LogEvent" "id" "Ljava/lang/String;" u3) := by
  refine own_con (ls := #[.val (.ref a1), .val (.int p1), .val (.ref x2), .val u3, .val .null, .val u5, .val u6, .val .null, .val (.int p8), .val (.int p9), .val (.int p10)]) (pn_com_example_deltatrace_deltatrace_LogEvent) (fun m => by rcases ref_cases r3 with rfl | ⟨_, rfl⟩ <;> rcases ref_cases r5 with rfl | ⟨_, rfl⟩ <;> rcases ref_cases r6 with rfl | ⟨_, rfl⟩ <;> (simp [entryFrame, mkF, argsToLocals, Value.category])) ?_
  intro p e s m below meth c s₁ hx hby hml0 hown0 hnm0 hret0 hlk hZ X0 e0
  have hml : c.maxLocals = 11 := hml0
  have hown : s.vm.findClass "com/example/deltatrace/deltatrace/LogEvent" = some m.cls := hown0
  have hnm : meth.name = "<init>" := hnm0
  have hret : meth.sig.returnType = none := hret0
  have F24 := Fr.nil Z.heap.size
  have F25 := Keep.refl h0 []
  have F26 := Keep.refl h0 [a1]
  refine own_step (T' := s₁) (g' := (mkF m 1 #[.val (.ref a1), .val (.int p1), .val (.ref x2), .val u3, .val .null, .val u5, .val u6, .val .null, .val (.int p8), .val (.int p9), .val (.int p10)] [(.ref a1)])) (fun _ kk => XS.aloadN X0.here hx rfl (hb hby dle_0) rfl rfl kk) ?_
  obtain ⟨T28, L28, _, h28, X28, e28, ⟨rfl, Nq27, eh27⟩, st28⟩ := own_callC X0 hx hZ hown rfl (w44 hw) (w45 hw) (w48 hw) (w47 hw) (by decide) (a := a1) (g := (mkF m 1 #[.val (.ref a1), .val (.int p1), .val (.ref x2), .val u3, .val .null, .val u5, .val u6, .val .null, .val (.int p8), .val (.int p9), .val (.int p10)] [(.ref a1)])) rfl (by rw [hml]; rfl) (argsL := []) (rest := []) (rm_rec l Z a0 hw a1 _ O0) e0 pd___V rfl rfl (W := 0) (by show 2 * 0 + _ ≤ _; exact Nat.le_of_eq rfl) (hb hby dle_1) (by decide) (by decide) (by decide) (by decide)
  have F29 := Fr.app F24 Nq27
  have F30 := e28.trans eh27
  refine own_step (T' := T28) (g' := (mkF m 4 #[.val (.ref a1), .val (.int p1), .val (.ref x2), .val u3, .val .null, .val u5, .val u6, .val .null, .val (.int p8), .val (.int p9), .val (.int p10)] [])) (fun _ kk => st28 _ kk) ?_
  refine own_step (T' := T28) (g' := (mkF m 5 #[.val (.ref a1), .val (.int p1), .val (.ref x2), .val u3, .val .null, .val u5, .val u6, .val .null, .val (.int p8), .val (.int p9), .val (.int p10)] [(.ref a1)])) (fun _ kk => XS.aloadN X28.here hx rfl (hb hby dle_4) rfl rfl kk) ?_
  refine own_step (T' := T28) (g' := (mkF m 6 #[.val (.ref a1), .val (.int p1), .val (.ref x2), .val u3, .val .null, .val u5, .val u6, .val .null, .val (.int p8), .val (.int p9), .val (.int p10)] [(.int p1), (.ref a1)])) (fun _ kk => XS.iloadN X28.here hx rfl (hb hby dle_5) rfl kk) ?_
  obtain ⟨u31, Fu31⟩ := O1.fld (w39 hw) (Or.inr (w51 hw) : Laid Z a0 "com/example/deltatrace/deltatrace/LogEvent" "com/example/deltatrace/deltatrace/LogEvent" "line" "I")
  obtain ⟨T31, h31, X31, e31, W31, st31⟩ := putF X28 hx hZ hown (host := "") (Or.inl (w50 hw)) Via.refl F30 Fu31 O1.1 (Or.inr ⟨(w51 hw), rfl, hnm⟩) (w39 hw) (ty := .int) (by decide) rfl rfl (g := (mkF m 6 #[.val (.ref a1), .val (.int p1), .val (.ref x2), .val u3, .val .null, .val u5, .val u6, .val .null, .val (.int p8), .val (.int p9), .val (.int p10)] [(.int p1), (.ref a1)])) rfl rfl (hb hby dle_6)
  have F32 := Fr.snoc X31 F29 g1
  have F33 := O1.wr W31
  have F34 := O0.wr W31 g1
  have F35 := F26.wr W31 (Or.inl (List.mem_of_getElem? (i := 0) rfl))
  have F36 : Fld Z h31 a1 "com/example/deltatrace/deltatrace/LogEvent" "line" "I" (.int p1) := Fu31.same W31
  refine own_step (T' := T31) (g' := (mkF m 9 #[.val (.ref a1), .val (.int p1), .val (.ref x2), .val u3, .val .null, .val u5, .val u6, .val .null, .val (.int p8), .val (.int p9), .val (.int p10)] [])) (fun _ kk => st31 _ kk) ?_
  refine own_step (T' := T31) (g' := (mkF m 10 #[.val (.ref a1), .val (.int p1), .val (.ref x2), .val u3, .val .null, .val u5, .val u6, .val .null, .val (.int p8), .val (.int p9), .val (.int p10)] [(.ref a1)])) (fun _ kk => XS.aloadN X31.here hx rfl (hb hby dle_9) rfl rfl kk) ?_
  refine own_step (T' := T31) (g' := (mkF m 11 #[.val (.ref a1), .val (.int p1), .val (.ref x2), .val u3, .val .null, .val u5, .val u6, .val .null, .val (.int p8), .val (.int p9), .val (.int p10)] [(.ref x2), (.ref a1)])) (fun _ kk => XS.aloadN X31.here hx rfl (hb hby dle_10) rfl rfl kk) ?_
  obtain ⟨u37, Fu37⟩ := F33.fld (w39 hw) (Or.inr (w53 hw) : Laid Z a0 "com/example/deltatrace/deltatrace/LogEvent" "com/example/deltatrace/deltatrace/LogEvent" "op" "Lcom/example/deltatrace/deltatrace/LogEvent$Op;")
  obtain ⟨T37, h37, X37, e37, W37, st37⟩ := putF X31 hx hZ hown (host := "") (Or.inl (w52 hw)) Via.refl e31 Fu37 F33.1 (Or.inr ⟨(w53 hw), rfl, hnm⟩) (w39 hw) (ty := (.object "com/example/deltatrace/deltatrace/LogEvent$Op")) (by decide) rfl rfl (g := (mkF m 11 #[.val (.ref a1), .val (.int p1), .val (.ref x2), .val u3, .val .null, .val u5, .val u6, .val .null, .val (.int p8), .val (.int p9), .val (.int p10)] [(.ref x2), (.ref a1)])) rfl rfl (hb hby dle_11)
  have F38 := Fr.snoc X37 F32 g1
  have F39 := F33.wr W37
  have F40 := F34.wr W37 g1
  have F41 := F35.wr W37 (Or.inl (List.mem_of_getElem? (i := 0) rfl))
  have F42 : Fld Z h37 a1 "com/example/deltatrace/deltatrace/LogEvent" "op" "Lcom/example/deltatrace/deltatrace/LogEvent$Op;" (.ref x2) := Fu37.same W37
  refine own_step (T' := T37) (g' := (mkF m 14 #[.val (.ref a1), .val (.int p1), .val (.ref x2), .val u3, .val .null, .val u5, .val u6, .val .null, .val (.int p8), .val (.int p9), .val (.int p10)] [])) (fun _ kk => st37 _ kk) ?_
  refine own_step (T' := T37) (g' := (mkF m 15 #[.val (.ref a1), .val (.int p1), .val (.ref x2), .val u3, .val .null, .val u5, .val u6, .val .null, .val (.int p8), .val (.int p9), .val (.int p10)] [(.ref a1)])) (fun _ kk => XS.aloadN X37.here hx rfl (hb hby dle_14) rfl rfl kk) ?_
  refine own_step (T' := T37) (g' := (mkF m 16 #[.val (.ref a1), .val (.int p1), .val (.ref x2), .val u3, .val .null, .val u5, .val u6, .val .null, .val (.int p8), .val (.int p9), .val (.int p10)] [u3, (.ref a1)])) (fun _ kk => XS.aloadN X37.here hx rfl (hb hby dle_15) rfl r3 kk) ?_
  obtain ⟨u43, Fu43⟩ := F39.fld (w39 hw) (Or.inr (w55 hw) : Laid Z a0 "com/example/deltatrace/deltatrace/LogEvent" "com/example/deltatrace/deltatrace/LogEvent" "id" "Ljava/lang/String;")
  obtain ⟨T43, h43, X43, e43, W43, st43⟩ := putF X37 hx hZ hown (host := "") (Or.inl (w54 hw)) Via.refl e37 Fu43 F39.1 (Or.inr ⟨(w55 hw), rfl, hnm⟩) (w39 hw) (ty := (.object "java/lang/String")) (by decide) (own_nref r3) (own_fref r3) (g := (mkF m 16 #[.val (.ref a1), .val (.int p1), .val (.ref x2), .val u3, .val .null, .val u5, .val u6, .val .null, .val (.int p8), .val (.int p9), .val (.int p10)] [u3, (.ref a1)])) rfl rfl (hb hby dle_16)
  have F44 := Fr.snoc X43 F38 g1
  have F45 := F39.wr W43
  have F46 := F42.other W43 (Or.inr (slot_ne (Or.inr (w53 hw) : Laid Z a0 "com/example/deltatrace/deltatrace/LogEvent" "com/example/deltatrace/deltatrace/LogEvent" "op" "Lcom/example/deltatrace/deltatrace/LogEvent$Op;") (Or.inr (w55 hw) : Laid Z a0 "com/example/deltatrace/deltatrace/LogEvent" "com/example/deltatrace/deltatrace/LogEvent" "id" "Ljava/lang/String;") (by decide) (t := (.object "com/example/deltatrace/deltatrace/LogEvent$Op")) (t' := (.object "java/lang/String")) (by decide) (by decide)))
  have F47 := F40.wr W43 g1
  have F48 := F41.wr W43 (Or.inl (List.mem_of_getElem? (i := 0) rfl))
  have F49 : Fld Z h43 a1 "com/example/deltatrace/deltatrace/LogEvent" "id" "Ljava/lang/String;" u3 := Fu43.same W43
  refine own_step (T' := T43) (g' := (mkF m 19 #[.val (.ref a1), .val (.int p1), .val (.ref x2), .val u3, .val .null, .val u5, .val u6, .val .null, .val (.int p8), .val (.int p9), .val (.int p10)] [])) (fun _ kk => st43 _ kk) ?_
  refine own_step (T' := T43) (g' := (mkF m 20 #[.val (.ref a1), .val (.int p1), .val (.ref x2), .val u3, .val .null, .val u5, .val u6, .val .null, .val (.int p8), .val (.int p9), .val (.int p10)] [(.ref a1)])) (fun _ kk => XS.aloadN X43.here hx rfl (hb hby dle_19) rfl rfl kk) ?_
  refine own_step (T' := T43) (g' := (mkF m 22 #[.val (.ref a1), .val (.int p1), .val (.ref x2), .val u3, .val .null, .val u5, .val u6, .val .null, .val (.int p8), .val (.int p9), .val (.int p10)] [.null, (.ref a1)])) (fun _ kk => XS.aload X43.here hx rfl (hb hby dle_20) rfl rfl kk) ?_
  obtain ⟨u50, Fu50⟩ := F45.fld (w39 hw) (Or.inr (w57 hw) : Laid Z a0 "com/example/deltatrace/deltatrace/LogEvent" "com/example/deltatrace/deltatrace/LogEvent" "className" "Ljava/lang/String;")
  obtain ⟨T50, h50, X50, e50, W50, st50⟩ := putF X43 hx hZ hown (host := "") (Or.inl (w56 hw)) Via.refl e43 Fu50 F45.1 (Or.inr ⟨(w57 hw), rfl, hnm⟩) (w39 hw) (ty := (.object "java/lang/String")) (by decide) rfl rfl (g := (mkF m 22 #[.val (.ref a1), .val (.int p1), .val (.ref x2), .val u3, .val .null, .val u5, .val u6, .val .null, .val (.int p8), .val (.int p9), .val (.int p10)] [.null, (.ref a1)])) rfl rfl (hb hby dle_22)
  have F51 := Fr.snoc X50 F44 g1
  have F52 := F45.wr W50
  have F53 := F46.other W50 (Or.inr (slot_ne (Or.inr (w53 hw) : Laid Z a0 "com/example/deltatrace/deltatrace/LogEvent" "com/example/deltatrace/deltatrace/LogEvent" "op" "Lcom/example/deltatrace/deltatrace/LogEvent$Op;") (Or.inr (w57 hw) : Laid Z a0 "com/example/deltatrace/deltatrace/LogEvent" "com/example/deltatrace/deltatrace/LogEvent" "className" "Ljava/lang/String;") (by decide) (t := (.object "com/example/deltatrace/deltatrace/LogEvent$Op")) (t' := (.object "java/lang/String")) (by decide) (by decide)))
  have F54 := F49.other W50 (Or.inr (slot_ne (Or.inr (w55 hw) : Laid Z a0 "com/example/deltatrace/deltatrace/LogEvent" "com/example/deltatrace/deltatrace/LogEvent" "id" "Ljava/lang/String;") (Or.inr (w57 hw) : Laid Z a0 "com/example/deltatrace/deltatrace/LogEvent" "com/example/deltatrace/deltatrace/LogEvent" "className" "Ljava/lang/String;") (by decide) (t := (.object "java/lang/String")) (t' := (.object "java/lang/String")) (by decide) (by decide)))
  have F55 := F47.wr W50 g1
  have F56 := F48.wr W50 (Or.inl (List.mem_of_getElem? (i := 0) rfl))
  have F57 : Fld Z h50 a1 "com/example/deltatrace/deltatrace/LogEvent" "className" "Ljava/lang/String;" .null := Fu50.same W50
  refine own_step (T' := T50) (g' := (mkF m 25 #[.val (.ref a1), .val (.int p1), .val (.ref x2), .val u3, .val .null, .val u5, .val u6, .val .null, .val (.int p8), .val (.int p9), .val (.int p10)] [])) (fun _ kk => st50 _ kk) ?_
  refine own_step (T' := T50) (g' := (mkF m 26 #[.val (.ref a1), .val (.int p1), .val (.ref x2), .val u3, .val .null, .val u5, .val u6, .val .null, .val (.int p8), .val (.int p9), .val (.int p10)] [(.ref a1)])) (fun _ kk => XS.aloadN X50.here hx rfl (hb hby dle_25) rfl rfl kk) ?_
  refine own_step (T' := T50) (g' := (mkF m 28 #[.val (.ref a1), .val (.int p1), .val (.ref x2), .val u3, .val .null, .val u5, .val u6, .val .null, .val (.int p8), .val (.int p9), .val (.int p10)] [u5, (.ref a1)])) (fun _ kk => XS.aload X50.here hx rfl (hb hby dle_26) rfl r5 kk) ?_
  obtain ⟨u58, Fu58⟩ := F52.fld (w39 hw) (Or.inr (w59 hw) : Laid Z a0 "com/example/deltatrace/deltatrace/LogEvent" "com/example/deltatrace/deltatrace/LogEvent" "feature" "Ljava/lang/String;")
  obtain ⟨T58, h58, X58, e58, W58, st58⟩ := putF X50 hx hZ hown (host := "") (Or.inl (w58 hw)) Via.refl e50 Fu58 F52.1 (Or.inr ⟨(w59 hw), rfl, hnm⟩) (w39 hw) (ty := (.object "java/lang/String")) (by decide) (own_nref r5) (own_fref r5) (g := (mkF m 28 #[.val (.ref a1), .val (.int p1), .val (.ref x2), .val u3, .val .null, .val u5, .val u6, .val .null, .val (.int p8), .val (.int p9), .val (.int p10)] [u5, (.ref a1)])) rfl rfl (hb hby dle_28)
  have F59 := Fr.snoc X58 F51 g1
  have F60 := F52.wr W58
  have F61 := F53.other W58 (Or.inr (slot_ne (Or.inr (w53 hw) : Laid Z a0 "com/example/deltatrace/deltatrace/LogEvent" "com/example/deltatrace/deltatrace/LogEvent" "op" "Lcom/example/deltatrace/deltatrace/LogEvent$Op;") (Or.inr (w59 hw) : Laid Z a0 "com/example/deltatrace/deltatrace/LogEvent" "com/example/deltatrace/deltatrace/LogEvent" "feature" "Ljava/lang/String;") (by decide) (t := (.object "com/example/deltatrace/deltatrace/LogEvent$Op")) (t' := (.object "java/lang/String")) (by decide) (by decide)))
  have F62 := F54.other W58 (Or.inr (slot_ne (Or.inr (w55 hw) : Laid Z a0 "com/example/deltatrace/deltatrace/LogEvent" "com/example/deltatrace/deltatrace/LogEvent" "id" "Ljava/lang/String;") (Or.inr (w59 hw) : Laid Z a0 "com/example/deltatrace/deltatrace/LogEvent" "com/example/deltatrace/deltatrace/LogEvent" "feature" "Ljava/lang/String;") (by decide) (t := (.object "java/lang/String")) (t' := (.object "java/lang/String")) (by decide) (by decide)))
  have F63 := F55.wr W58 g1
  have F64 := F56.wr W58 (Or.inl (List.mem_of_getElem? (i := 0) rfl))
  have F65 : Fld Z h58 a1 "com/example/deltatrace/deltatrace/LogEvent" "feature" "Ljava/lang/String;" u5 := Fu58.same W58
  refine own_step (T' := T58) (g' := (mkF m 31 #[.val (.ref a1), .val (.int p1), .val (.ref x2), .val u3, .val .null, .val u5, .val u6, .val .null, .val (.int p8), .val (.int p9), .val (.int p10)] [])) (fun _ kk => st58 _ kk) ?_
  refine own_step (T' := T58) (g' := (mkF m 32 #[.val (.ref a1), .val (.int p1), .val (.ref x2), .val u3, .val .null, .val u5, .val u6, .val .null, .val (.int p8), .val (.int p9), .val (.int p10)] [(.ref a1)])) (fun _ kk => XS.aloadN X58.here hx rfl (hb hby dle_31) rfl rfl kk) ?_
  refine own_step (T' := T58) (g' := (mkF m 34 #[.val (.ref a1), .val (.int p1), .val (.ref x2), .val u3, .val .null, .val u5, .val u6, .val .null, .val (.int p8), .val (.int p9), .val (.int p10)] [u6, (.ref a1)])) (fun _ kk => XS.aload X58.here hx rfl (hb hby dle_32) rfl r6 kk) ?_
  obtain ⟨u66, Fu66⟩ := F60.fld (w39 hw) (Or.inr (w61 hw) : Laid Z a0 "com/example/deltatrace/deltatrace/LogEvent" "com/example/deltatrace/deltatrace/LogEvent" "value" "Ljava/lang/Object;")
  obtain ⟨T66, h66, X66, e66, W66, st66⟩ := putF X58 hx hZ hown (host := "") (Or.inl (w60 hw)) Via.refl e58 Fu66 F60.1 (Or.inr ⟨(w61 hw), rfl, hnm⟩) (w39 hw) (ty := (.object "java/lang/Object")) (by decide) (own_nref r6) (own_fref r6) (g := (mkF m 34 #[.val (.ref a1), .val (.int p1), .val (.ref x2), .val u3, .val .null, .val u5, .val u6, .val .null, .val (.int p8), .val (.int p9), .val (.int p10)] [u6, (.ref a1)])) rfl rfl (hb hby dle_34)
  have F67 := Fr.snoc X66 F59 g1
  have F68 := F60.wr W66
  have F69 := F61.other W66 (Or.inr (slot_ne (Or.inr (w53 hw) : Laid Z a0 "com/example/deltatrace/deltatrace/LogEvent" "com/example/deltatrace/deltatrace/LogEvent" "op" "Lcom/example/deltatrace/deltatrace/LogEvent$Op;") (Or.inr (w61 hw) : Laid Z a0 "com/example/deltatrace/deltatrace/LogEvent" "com/example/deltatrace/deltatrace/LogEvent" "value" "Ljava/lang/Object;") (by decide) (t := (.object "com/example/deltatrace/deltatrace/LogEvent$Op")) (t' := (.object "java/lang/Object")) (by decide) (by decide)))
  have F70 := F62.other W66 (Or.inr (slot_ne (Or.inr (w55 hw) : Laid Z a0 "com/example/deltatrace/deltatrace/LogEvent" "com/example/deltatrace/deltatrace/LogEvent" "id" "Ljava/lang/String;") (Or.inr (w61 hw) : Laid Z a0 "com/example/deltatrace/deltatrace/LogEvent" "com/example/deltatrace/deltatrace/LogEvent" "value" "Ljava/lang/Object;") (by decide) (t := (.object "java/lang/String")) (t' := (.object "java/lang/Object")) (by decide) (by decide)))
  have F71 := F63.wr W66 g1
  have F72 := F64.wr W66 (Or.inl (List.mem_of_getElem? (i := 0) rfl))
  have F73 : Fld Z h66 a1 "com/example/deltatrace/deltatrace/LogEvent" "value" "Ljava/lang/Object;" u6 := Fu66.same W66
  refine own_step (T' := T66) (g' := (mkF m 37 #[.val (.ref a1), .val (.int p1), .val (.ref x2), .val u3, .val .null, .val u5, .val u6, .val .null, .val (.int p8), .val (.int p9), .val (.int p10)] [])) (fun _ kk => st66 _ kk) ?_
  refine own_step (T' := T66) (g' := (mkF m 38 #[.val (.ref a1), .val (.int p1), .val (.ref x2), .val u3, .val .null, .val u5, .val u6, .val .null, .val (.int p8), .val (.int p9), .val (.int p10)] [(.ref a1)])) (fun _ kk => XS.aloadN X66.here hx rfl (hb hby dle_37) rfl rfl kk) ?_
  refine own_step (T' := T66) (g' := (mkF m 40 #[.val (.ref a1), .val (.int p1), .val (.ref x2), .val u3, .val .null, .val u5, .val u6, .val .null, .val (.int p8), .val (.int p9), .val (.int p10)] [.null, (.ref a1)])) (fun _ kk => XS.aload X66.here hx rfl (hb hby dle_38) rfl rfl kk) ?_
  obtain ⟨u74, Fu74⟩ := F68.fld (w39 hw) (Or.inr (w63 hw) : Laid Z a0 "com/example/deltatrace/deltatrace/LogEvent" "com/example/deltatrace/deltatrace/LogEvent" "old" "Ljava/lang/Object;")
  obtain ⟨T74, h74, X74, e74, W74, st74⟩ := putF X66 hx hZ hown (host := "") (Or.inl (w62 hw)) Via.refl e66 Fu74 F68.1 (Or.inr ⟨(w63 hw), rfl, hnm⟩) (w39 hw) (ty := (.object "java/lang/Object")) (by decide) rfl rfl (g := (mkF m 40 #[.val (.ref a1), .val (.int p1), .val (.ref x2), .val u3, .val .null, .val u5, .val u6, .val .null, .val (.int p8), .val (.int p9), .val (.int p10)] [.null, (.ref a1)])) rfl rfl (hb hby dle_40)
  have F75 := Fr.snoc X74 F67 g1
  have F76 := F68.wr W74
  have F77 := F69.other W74 (Or.inr (slot_ne (Or.inr (w53 hw) : Laid Z a0 "com/example/deltatrace/deltatrace/LogEvent" "com/example/deltatrace/deltatrace/LogEvent" "op" "Lcom/example/deltatrace/deltatrace/LogEvent$Op;") (Or.inr (w63 hw) : Laid Z a0 "com/example/deltatrace/deltatrace/LogEvent" "com/example/deltatrace/deltatrace/LogEvent" "old" "Ljava/lang/Object;") (by decide) (t := (.object "com/example/deltatrace/deltatrace/LogEvent$Op")) (t' := (.object "java/lang/Object")) (by decide) (by decide)))
  have F78 := F70.other W74 (Or.inr (slot_ne (Or.inr (w55 hw) : Laid Z a0 "com/example/deltatrace/deltatrace/LogEvent" "com/example/deltatrace/deltatrace/LogEvent" "id" "Ljava/lang/String;") (Or.inr (w63 hw) : Laid Z a0 "com/example/deltatrace/deltatrace/LogEvent" "com/example/deltatrace/deltatrace/LogEvent" "old" "Ljava/lang/Object;") (by decide) (t := (.object "java/lang/String")) (t' := (.object "java/lang/Object")) (by decide) (by decide)))
  have F79 := F71.wr W74 g1
  have F80 := F72.wr W74 (Or.inl (List.mem_of_getElem? (i := 0) rfl))
  have F81 : Fld Z h74 a1 "com/example/deltatrace/deltatrace/LogEvent" "old" "Ljava/lang/Object;" .null := Fu74.same W74
  refine own_step (T' := T74) (g' := (mkF m 43 #[.val (.ref a1), .val (.int p1), .val (.ref x2), .val u3, .val .null, .val u5, .val u6, .val .null, .val (.int p8), .val (.int p9), .val (.int p10)] [])) (fun _ kk => st74 _ kk) ?_
  refine own_step (T' := T74) (g' := (mkF m 44 #[.val (.ref a1), .val (.int p1), .val (.ref x2), .val u3, .val .null, .val u5, .val u6, .val .null, .val (.int p8), .val (.int p9), .val (.int p10)] [(.ref a1)])) (fun _ kk => XS.aloadN X74.here hx rfl (hb hby dle_43) rfl rfl kk) ?_
  refine own_step (T' := T74) (g' := (mkF m 46 #[.val (.ref a1), .val (.int p1), .val (.ref x2), .val u3, .val .null, .val u5, .val u6, .val .null, .val (.int p8), .val (.int p9), .val (.int p10)] [(.int p8), (.ref a1)])) (fun _ kk => XS.iload X74.here hx rfl (hb hby dle_44) rfl kk) ?_
  obtain ⟨u82, Fu82⟩ := F76.fld (w39 hw) (Or.inr (w65 hw) : Laid Z a0 "com/example/deltatrace/deltatrace/LogEvent" "com/example/deltatrace/deltatrace/LogEvent" "at" "I")
  obtain ⟨T82, h82, X82, e82, W82, st82⟩ := putF X74 hx hZ hown (host := "") (Or.inl (w64 hw)) Via.refl e74 Fu82 F76.1 (Or.inr ⟨(w65 hw), rfl, hnm⟩) (w39 hw) (ty := .int) (by decide) rfl rfl (g := (mkF m 46 #[.val (.ref a1), .val (.int p1), .val (.ref x2), .val u3, .val .null, .val u5, .val u6, .val .null, .val (.int p8), .val (.int p9), .val (.int p10)] [(.int p8), (.ref a1)])) rfl rfl (hb hby dle_46)
  have F83 := Fr.snoc X82 F75 g1
  have F84 := F76.wr W82
  have F85 := F77.other W82 (Or.inr (slot_ne (Or.inr (w53 hw) : Laid Z a0 "com/example/deltatrace/deltatrace/LogEvent" "com/example/deltatrace/deltatrace/LogEvent" "op" "Lcom/example/deltatrace/deltatrace/LogEvent$Op;") (Or.inr (w65 hw) : Laid Z a0 "com/example/deltatrace/deltatrace/LogEvent" "com/example/deltatrace/deltatrace/LogEvent" "at" "I") (by decide) (t := (.object "com/example/deltatrace/deltatrace/LogEvent$Op")) (t' := .int) (by decide) (by decide)))
  have F86 := F78.other W82 (Or.inr (slot_ne (Or.inr (w55 hw) : Laid Z a0 "com/example/deltatrace/deltatrace/LogEvent" "com/example/deltatrace/deltatrace/LogEvent" "id" "Ljava/lang/String;") (Or.inr (w65 hw) : Laid Z a0 "com/example/deltatrace/deltatrace/LogEvent" "com/example/deltatrace/deltatrace/LogEvent" "at" "I") (by decide) (t := (.object "java/lang/String")) (t' := .int) (by decide) (by decide)))
  have F87 := F79.wr W82 g1
  have F88 := F80.wr W82 (Or.inl (List.mem_of_getElem? (i := 0) rfl))
  have F89 : Fld Z h82 a1 "com/example/deltatrace/deltatrace/LogEvent" "at" "I" (.int p8) := Fu82.same W82
  refine own_step (T' := T82) (g' := (mkF m 49 #[.val (.ref a1), .val (.int p1), .val (.ref x2), .val u3, .val .null, .val u5, .val u6, .val .null, .val (.int p8), .val (.int p9), .val (.int p10)] [])) (fun _ kk => st82 _ kk) ?_
  refine own_step (T' := T82) (g' := (mkF m 50 #[.val (.ref a1), .val (.int p1), .val (.ref x2), .val u3, .val .null, .val u5, .val u6, .val .null, .val (.int p8), .val (.int p9), .val (.int p10)] [(.ref a1)])) (fun _ kk => XS.aloadN X82.here hx rfl (hb hby dle_49) rfl rfl kk) ?_
  refine own_step (T' := T82) (g' := (mkF m 52 #[.val (.ref a1), .val (.int p1), .val (.ref x2), .val u3, .val .null, .val u5, .val u6, .val .null, .val (.int p8), .val (.int p9), .val (.int p10)] [(.int p9), (.ref a1)])) (fun _ kk => XS.iload X82.here hx rfl (hb hby dle_50) rfl kk) ?_
  obtain ⟨u90, Fu90⟩ := F84.fld (w39 hw) (Or.inr (w67 hw) : Laid Z a0 "com/example/deltatrace/deltatrace/LogEvent" "com/example/deltatrace/deltatrace/LogEvent" "from" "I")
  obtain ⟨T90, h90, X90, e90, W90, st90⟩ := putF X82 hx hZ hown (host := "") (Or.inl (w66 hw)) Via.refl e82 Fu90 F84.1 (Or.inr ⟨(w67 hw), rfl, hnm⟩) (w39 hw) (ty := .int) (by decide) rfl rfl (g := (mkF m 52 #[.val (.ref a1), .val (.int p1), .val (.ref x2), .val u3, .val .null, .val u5, .val u6, .val .null, .val (.int p8), .val (.int p9), .val (.int p10)] [(.int p9), (.ref a1)])) rfl rfl (hb hby dle_52)
  have F91 := Fr.snoc X90 F83 g1
  have F92 := F84.wr W90
  have F93 := F85.other W90 (Or.inr (slot_ne (Or.inr (w53 hw) : Laid Z a0 "com/example/deltatrace/deltatrace/LogEvent" "com/example/deltatrace/deltatrace/LogEvent" "op" "Lcom/example/deltatrace/deltatrace/LogEvent$Op;") (Or.inr (w67 hw) : Laid Z a0 "com/example/deltatrace/deltatrace/LogEvent" "com/example/deltatrace/deltatrace/LogEvent" "from" "I") (by decide) (t := (.object "com/example/deltatrace/deltatrace/LogEvent$Op")) (t' := .int) (by decide) (by decide)))
  have F94 := F86.other W90 (Or.inr (slot_ne (Or.inr (w55 hw) : Laid Z a0 "com/example/deltatrace/deltatrace/LogEvent" "com/example/deltatrace/deltatrace/LogEvent" "id" "Ljava/lang/String;") (Or.inr (w67 hw) : Laid Z a0 "com/example/deltatrace/deltatrace/LogEvent" "com/example/deltatrace/deltatrace/LogEvent" "from" "I") (by decide) (t := (.object "java/lang/String")) (t' := .int) (by decide) (by decide)))
  have F95 := F87.wr W90 g1
  have F96 := F88.wr W90 (Or.inl (List.mem_of_getElem? (i := 0) rfl))
  have F97 : Fld Z h90 a1 "com/example/deltatrace/deltatrace/LogEvent" "from" "I" (.int p9) := Fu90.same W90
  refine own_step (T' := T90) (g' := (mkF m 55 #[.val (.ref a1), .val (.int p1), .val (.ref x2), .val u3, .val .null, .val u5, .val u6, .val .null, .val (.int p8), .val (.int p9), .val (.int p10)] [])) (fun _ kk => st90 _ kk) ?_
  refine own_step (T' := T90) (g' := (mkF m 56 #[.val (.ref a1), .val (.int p1), .val (.ref x2), .val u3, .val .null, .val u5, .val u6, .val .null, .val (.int p8), .val (.int p9), .val (.int p10)] [(.ref a1)])) (fun _ kk => XS.aloadN X90.here hx rfl (hb hby dle_55) rfl rfl kk) ?_
  refine own_step (T' := T90) (g' := (mkF m 58 #[.val (.ref a1), .val (.int p1), .val (.ref x2), .val u3, .val .null, .val u5, .val u6, .val .null, .val (.int p8), .val (.int p9), .val (.int p10)] [(.int p10), (.ref a1)])) (fun _ kk => XS.iload X90.here hx rfl (hb hby dle_56) rfl kk) ?_
  obtain ⟨u98, Fu98⟩ := F92.fld (w39 hw) (Or.inr (w69 hw) : Laid Z a0 "com/example/deltatrace/deltatrace/LogEvent" "com/example/deltatrace/deltatrace/LogEvent" "to" "I")
  obtain ⟨T98, h98, X98, e98, W98, st98⟩ := putF X90 hx hZ hown (host := "") (Or.inl (w68 hw)) Via.refl e90 Fu98 F92.1 (Or.inr ⟨(w69 hw), rfl, hnm⟩) (w39 hw) (ty := .int) (by decide) rfl rfl (g := (mkF m 58 #[.val (.ref a1), .val (.int p1), .val (.ref x2), .val u3, .val .null, .val u5, .val u6, .val .null, .val (.int p8), .val (.int p9), .val (.int p10)] [(.int p10), (.ref a1)])) rfl rfl (hb hby dle_58)
  have F99 := Fr.snoc X98 F91 g1
  have F100 := F92.wr W98
  have F101 := F93.other W98 (Or.inr (slot_ne (Or.inr (w53 hw) : Laid Z a0 "com/example/deltatrace/deltatrace/LogEvent" "com/example/deltatrace/deltatrace/LogEvent" "op" "Lcom/example/deltatrace/deltatrace/LogEvent$Op;") (Or.inr (w69 hw) : Laid Z a0 "com/example/deltatrace/deltatrace/LogEvent" "com/example/deltatrace/deltatrace/LogEvent" "to" "I") (by decide) (t := (.object "com/example/deltatrace/deltatrace/LogEvent$Op")) (t' := .int) (by decide) (by decide)))
  have F102 := F94.other W98 (Or.inr (slot_ne (Or.inr (w55 hw) : Laid Z a0 "com/example/deltatrace/deltatrace/LogEvent" "com/example/deltatrace/deltatrace/LogEvent" "id" "Ljava/lang/String;") (Or.inr (w69 hw) : Laid Z a0 "com/example/deltatrace/deltatrace/LogEvent" "com/example/deltatrace/deltatrace/LogEvent" "to" "I") (by decide) (t := (.object "java/lang/String")) (t' := .int) (by decide) (by decide)))
  have F103 := F95.wr W98 g1
  have F104 := F96.wr W98 (Or.inl (List.mem_of_getElem? (i := 0) rfl))
  have F105 : Fld Z h98 a1 "com/example/deltatrace/deltatrace/LogEvent" "to" "I" (.int p10) := Fu98.same W98
  refine own_step (T' := T98) (g' := (mkF m 61 #[.val (.ref a1), .val (.int p1), .val (.ref x2), .val u3, .val .null, .val u5, .val u6, .val .null, .val (.int p8), .val (.int p9), .val (.int p10)] [])) (fun _ kk => st98 _ kk) ?_
  exact own_retV X98 hx hlk hret (hb hby dle_61) e98 ⟨rfl, F99, F104, F100, F101, F102⟩ (by decide) (by decide)
theorem dol_0 : decode prog_13_method_6_code 0 = .ok (.aload_n 0, 1) := by decide +kernel
theorem dol_1 : decode prog_13_method_6_code 1 = .ok (.getfield 51, 3) := by decide +kernel
theorem dol_4 : decode prog_13_method_6_code 4 = .ok (.ireturn, 1) := by decide +kernel
set_option maxRecDepth 65536 in
set_option maxHeartbeats 40000000 in
theorem rm_ol (l : Launch) (Z : State) (a0 : Array Value) (hw : ∀ d ∈ tables_1, d.before a0 Z = true) (a1 : Addr) (z2 : Int32) (h0 : Heap) (O0 : Old Z Z.heap.size h0) (F1 : Fld Z h0 a1 "com/example/deltatrace/deltatrace/LogEvent$Op" "onList" "Z" (.int z2)) (z01 : z2 = nar .boolean z2) :
    own_Con l Z (⟨"com/example/deltatrace/deltatrace/LogEvent$Op", "onList", "()Z"⟩ : MethodName) prog_13_method_6_code 1 (some .boolean) ({ frames := 0, cells := 0, slots := 0, locals := 0 } : Room) #[(.ref a1)] h0 (fun v h L => v = some (.int z2) ∧ Fr Z.heap.size L ∧ h = h0) := by
  refine own_con (ls := #[.val (.ref a1)]) (pn_com_example_deltatrace_deltatrace_LogEvent_Op) (fun m => by first | (simp [entryFrame, mkF, argsToLocals, Value.category]; done) | rfl) ?_
  intro p e s m below meth c s₁ hx hby hml0 hown0 hnm0 hret0 hlk hZ X0 e0
  have hml : c.maxLocals = 1 := hml0
  have hown : s.vm.findClass "com/example/deltatrace/deltatrace/LogEvent$Op" = some m.cls := hown0
  have hnm : meth.name = "onList" := hnm0
  have hret : meth.sig.returnType = (some .boolean) := hret0
  have F106 := Fr.nil Z.heap.size
  have F107 := Keep.refl h0 []
  refine own_step (T' := s₁) (g' := (mkF m 1 #[.val (.ref a1)] [(.ref a1)])) (fun _ kk => XS.aloadN X0.here hx rfl (hb hby dol_0) rfl rfl kk) ?_
  obtain ⟨T108, X108, e108, st108⟩ := getF X0 hx hZ hown (host := "") (Or.inl (w86 hw)) Via.refl e0 F1 (g := (mkF m 1 #[.val (.ref a1)] [(.ref a1)])) rfl rfl (hb hby dol_1)
  refine own_step (T' := T108) (g' := (mkF m 4 #[.val (.ref a1)] [(.int z2)])) (fun _ kk => st108 _ kk) ?_
  exact own_retN X108 hx hlk (t := .boolean) hret (by simp) (hb hby dol_4) e108 ⟨by rw [← z01], F106, rfl⟩ (by decide) (by decide)
theorem dor_0 : decode prog_12_method_13_code 0 = .ok (.aload_n 0, 1) := by decide +kernel
theorem dor_1 : decode prog_12_method_13_code 1 = .ok (.getfield 13, 3) := by decide +kernel
theorem dor_4 : decode prog_12_method_13_code 4 = .ok (.invokevirtual 84, 3) := by decide +kernel
theorem dor_7 : decode prog_12_method_13_code 7 = .ok (.ifCond .eq 14, 3) := by decide +kernel
theorem dor_10 : decode prog_12_method_13_code 10 = .ok (.aload_n 0, 1) := by decide +kernel
theorem dor_11 : decode prog_12_method_13_code 11 = .ok (.getfield 17, 3) := by decide +kernel
theorem dor_14 : decode prog_12_method_13_code 14 = .ok (.ifnonnull 7, 3) := by decide +kernel
theorem dor_17 : decode prog_12_method_13_code 17 = .ok (.iconst 1, 1) := by decide +kernel
theorem dor_18 : decode prog_12_method_13_code 18 = .ok (.goto 4, 3) := by decide +kernel
theorem dor_21 : decode prog_12_method_13_code 21 = .ok (.iconst 0, 1) := by decide +kernel
theorem dor_22 : decode prog_12_method_13_code 22 = .ok (.ireturn, 1) := by decide +kernel
set_option maxRecDepth 65536 in
set_option maxHeartbeats 40000000 in
theorem rm_or (l : Launch) (Z : State) (a0 : Array Value) (hw : ∀ d ∈ tables_1, d.before a0 Z = true) (a1 x2 : Addr) (z2 : Int32) (u3 : Value) (h0 : Heap) (O0 : Old Z Z.heap.size h0) (F1 : Fld Z h0 a1 "com/example/deltatrace/deltatrace/LogEvent" "op" "Lcom/example/deltatrace/deltatrace/LogEvent$Op;" (.ref x2)) (F2 : Fld Z h0 a1 "com/example/deltatrace/deltatrace/LogEvent" "id" "Ljava/lang/String;" u3) (E2 : Exa Z h0 x2 "com/example/deltatrace/deltatrace/LogEvent$Op") (F3 : Fld Z h0 x2 "com/example/deltatrace/deltatrace/LogEvent$Op" "onList" "Z" (.int z2)) (z01 : z2 = nar .boolean z2) (r3 : u3.isRef = true) :
    own_Con l Z (⟨"com/example/deltatrace/deltatrace/LogEvent", "onRoots", "()Z"⟩ : MethodName) prog_12_method_13_code 1 (some .boolean) ({ frames := 1, cells := 0, slots := 0, locals := 12 } : Room) #[(.ref a1)] h0 (fun v h L => v = some (.int (if z2 = (0 : Int32) then (0 : Int32) else if u3 = Value.null then (1 : Int32) else (0 : Int32))) ∧ Fr Z.heap.size L ∧ h = h0) := by
  refine own_con (ls := #[.val (.ref a1)]) (pn_com_example_deltatrace_deltatrace_LogEvent) (fun m => by first | (simp [entryFrame, mkF, argsToLocals, Value.category]; done) | rfl) ?_
  intro p e s m below meth c s₁ hx hby hml0 hown0 hnm0 hret0 hlk hZ X0 e0
  have hml : c.maxLocals = 1 := hml0
  have hown : s.vm.findClass "com/example/deltatrace/deltatrace/LogEvent" = some m.cls := hown0
  have hnm : meth.name = "onRoots" := hnm0
  have hret : meth.sig.returnType = (some .boolean) := hret0
  have F109 := Fr.nil Z.heap.size
  have F110 := Keep.refl h0 []
  refine own_step (T' := s₁) (g' := (mkF m 1 #[.val (.ref a1)] [(.ref a1)])) (fun _ kk => XS.aloadN X0.here hx rfl (hb hby dor_0) rfl rfl kk) ?_
  obtain ⟨T111, X111, e111, st111⟩ := getF X0 hx hZ hown (host := "") (Or.inl (w52 hw)) Via.refl e0 F1 (g := (mkF m 1 #[.val (.ref a1)] [(.ref a1)])) rfl rfl (hb hby dor_1)
  refine own_step (T' := T111) (g' := (mkF m 4 #[.val (.ref a1)] [(.ref x2)])) (fun _ kk => st111 _ kk) ?_
  obtain ⟨T113, L113, _, h113, X113, e113, ⟨rfl, Nq112, eh112⟩, st113⟩ := own_callV X111 hx hZ hown (w81 hw) (w82 hw) (w84 hw) (w83 hw) (w85 hw) (w6 hw) (by decide) E2 (g := (mkF m 4 #[.val (.ref a1)] [(.ref x2)])) rfl (by rw [hml]; rfl) (argsL := []) (rest := []) (rm_ol l Z a0 hw x2 z2 _ O0 F3 z01) e111 pd___Z rfl rfl (W := 0) (by show 2 * 0 + _ ≤ _; exact Nat.le_of_eq rfl) (hb hby dor_4) (by decide) (by decide) (by decide) (by decide)
  have F114 := Fr.app F109 Nq112
  have F115 := e113.trans eh112
  refine own_step (T' := T113) (g' := (mkF m 7 #[.val (.ref a1)] [(.int z2)])) (fun _ kk => st113 _ kk) ?_
  by_cases c116 : z2 = (0 : Int32)
  · refine own_step (T' := T113) (g' := (mkF m 21 #[.val (.ref a1)] [])) (fun _ kk => XS.ifYes X113.here hx rfl (pc0 := 7) (pc' := 21) rfl (hb hby dor_7) rfl ((if0 _ _).trans (teq c116).1) (by decide) (by decide) kk) ?_
    refine own_step (T' := T113) (g' := (mkF m 22 #[.val (.ref a1)] [(.int (0 : Int32))])) (fun _ kk => XS.iconst X113.here hx rfl (hb hby dor_21) kk) ?_
    exact own_retN X113 hx hlk (t := .boolean) hret (by simp) (hb hby dor_22) F115 ⟨by rw [if_pos c116]; rfl, F114, rfl⟩ (by decide) (by decide)
  · refine own_step (T' := T113) (g' := (mkF m 10 #[.val (.ref a1)] [])) (fun _ kk => XS.ifNo X113.here hx rfl (hb hby dor_7) rfl ((if0 _ _).trans (feq c116).1) kk) ?_
    refine own_step (T' := T113) (g' := (mkF m 11 #[.val (.ref a1)] [(.ref a1)])) (fun _ kk => XS.aloadN X113.here hx rfl (hb hby dor_10) rfl rfl kk) ?_
    obtain ⟨T117, X117, e117, st117⟩ := getF X113 hx hZ hown (host := "") (Or.inl (w54 hw)) Via.refl F115 F2 (g := (mkF m 11 #[.val (.ref a1)] [(.ref a1)])) rfl rfl (hb hby dor_11)
    refine own_step (T' := T117) (g' := (mkF m 14 #[.val (.ref a1)] [u3])) (fun _ kk => st117 _ kk) ?_
    rcases ref_cases r3 with rfl | ⟨ia, rfl⟩
    · refine own_step (T' := T117) (g' := (mkF m 17 #[.val (.ref a1)] [])) (fun _ kk => XS.ifnonnullNo X117.here hx rfl (hb hby dor_14) rfl kk) ?_
      refine own_step (T' := T117) (g' := (mkF m 18 #[.val (.ref a1)] [(.int (1 : Int32))])) (fun _ kk => XS.iconst X117.here hx rfl (hb hby dor_17) kk) ?_
      refine own_step (T' := T117) (g' := (mkF m 22 #[.val (.ref a1)] [(.int (1 : Int32))])) (fun _ kk => XS.goto X117.here hx rfl (pc0 := 18) (pc' := 22) rfl (hb hby dor_18) (by decide) (by decide) kk) ?_
      exact own_retN X117 hx hlk (t := .boolean) hret (by simp) (hb hby dor_22) e117 ⟨by rw [if_neg c116, if_pos rfl]; rfl, F114, rfl⟩ (by decide) (by decide)
    · refine own_step (T' := T117) (g' := (mkF m 21 #[.val (.ref a1)] [])) (fun _ kk => XS.ifnonnullYes X117.here hx rfl (pc0 := 14) (pc' := 21) rfl (hb hby dor_14) rfl (by decide) (by decide) kk) ?_
      refine own_step (T' := T117) (g' := (mkF m 22 #[.val (.ref a1)] [(.int (0 : Int32))])) (fun _ kk => XS.iconst X117.here hx rfl (hb hby dor_21) kk) ?_
      exact own_retN X117 hx hlk (t := .boolean) hret (by simp) (hb hby dor_22) e117 ⟨by rw [if_neg c116, if_neg (by simp)]; rfl, F114, rfl⟩ (by decide) (by decide)
theorem dce_0 : decode jdk_43_method_3_code 0 = .ok (.iload_n 0, 1) := by decide +kernel
theorem dce_1 : decode jdk_43_method_3_code 1 = .ok (.sipush 255, 3) := by decide +kernel
theorem dce_4 : decode jdk_43_method_3_code 4 = .ok (.if_icmp .gt 7, 3) := by decide +kernel
theorem dce_7 : decode jdk_43_method_3_code 7 = .ok (.iconst 1, 1) := by decide +kernel
theorem dce_8 : decode jdk_43_method_3_code 8 = .ok (.goto 4, 3) := by decide +kernel
theorem dce_11 : decode jdk_43_method_3_code 11 = .ok (.iconst 0, 1) := by decide +kernel
theorem dce_12 : decode jdk_43_method_3_code 12 = .ok (.ireturn, 1) := by decide +kernel
set_option maxRecDepth 65536 in
set_option maxHeartbeats 40000000 in
theorem rm_ce (l : Launch) (Z : State) (a0 : Array Value) (hw : ∀ d ∈ tables_1, d.before a0 Z = true) (p1 : Int32) (h0 : Heap) (O0 : Old Z Z.heap.size h0) (c2 : p1.toInt ≤ 255) :
    own_Con l Z (⟨"java/lang/StringLatin1", "canEncode", "(C)Z"⟩ : MethodName) jdk_43_method_3_code 1 (some .boolean) ({ frames := 0, cells := 0, slots := 0, locals := 0 } : Room) #[(.int p1)] h0 (fun v h L => v = some (.int (1 : Int32)) ∧ Fr Z.heap.size L ∧ h = h0) := by
  refine own_con (ls := #[.val (.int p1)]) (pn_java_lang_StringLatin1) (fun m => by first | (simp [entryFrame, mkF, argsToLocals, Value.category]; done) | rfl) ?_
  intro p e s m below meth c s₁ hx hby hml0 hown0 hnm0 hret0 hlk hZ X0 e0
  have hml : c.maxLocals = 1 := hml0
  have hown : s.vm.findClass "java/lang/StringLatin1" = some m.cls := hown0
  have hnm : meth.name = "canEncode" := hnm0
  have hret : meth.sig.returnType = (some .boolean) := hret0
  have F118 := Fr.nil Z.heap.size
  have F119 := Keep.refl h0 []
  refine own_step (T' := s₁) (g' := (mkF m 1 #[.val (.int p1)] [(.int p1)])) (fun _ kk => XS.iloadN X0.here hx rfl (hb hby dce_0) rfl kk) ?_
  refine own_step (T' := s₁) (g' := (mkF m 4 #[.val (.int p1)] [(.int (255 : Int32)), (.int p1)])) (fun _ kk => XS.sipush X0.here hx rfl (hb hby dce_1) kk) ?_
  refine own_step (T' := s₁) (g' := (mkF m 7 #[.val (.int p1)] [])) (fun _ kk => XS.icmpNo X0.here hx rfl (hb hby dce_4) rfl (flt (own_nlt (by show _ ≤ (255 : Int32).toInt; exact c2))).2.2.1 kk) ?_
  refine own_step (T' := s₁) (g' := (mkF m 8 #[.val (.int p1)] [(.int (1 : Int32))])) (fun _ kk => XS.iconst X0.here hx rfl (hb hby dce_7) kk) ?_
  refine own_step (T' := s₁) (g' := (mkF m 12 #[.val (.int p1)] [(.int (1 : Int32))])) (fun _ kk => XS.goto X0.here hx rfl (pc0 := 8) (pc' := 12) rfl (hb hby dce_8) (by decide) (by decide) kk) ?_
  exact own_retN X0 hx hlk (t := .boolean) hret (by simp) (hb hby dce_12) e0 ⟨rfl, F118, rfl⟩ (by decide) (by decide)
theorem dtb_0 : decode jdk_43_method_46_code 0 = .ok (.iconst 1, 1) := by decide +kernel
theorem dtb_1 : decode jdk_43_method_46_code 1 = .ok (.newarray .byte, 2) := by decide +kernel
theorem dtb_3 : decode jdk_43_method_46_code 3 = .ok (.dup, 1) := by decide +kernel
theorem dtb_4 : decode jdk_43_method_46_code 4 = .ok (.iconst 0, 1) := by decide +kernel
theorem dtb_5 : decode jdk_43_method_46_code 5 = .ok (.iload_n 0, 1) := by decide +kernel
theorem dtb_6 : decode jdk_43_method_46_code 6 = .ok (.i2b, 1) := by decide +kernel
theorem dtb_7 : decode jdk_43_method_46_code 7 = .ok (.bastore, 1) := by decide +kernel
theorem dtb_8 : decode jdk_43_method_46_code 8 = .ok (.areturn, 1) := by decide +kernel
set_option maxRecDepth 65536 in
set_option maxHeartbeats 40000000 in
theorem rm_tb (l : Launch) (Z : State) (a0 : Array Value) (hw : ∀ d ∈ tables_1, d.before a0 Z = true) (p1 : Int32) (h0 : Heap) (O0 : Old Z Z.heap.size h0)  :
    own_Con l Z (⟨"java/lang/StringLatin1", "toBytes", "(C)[B"⟩ : MethodName) jdk_43_method_46_code 1 (some (.array .byte)) ({ frames := 0, cells := 1, slots := 1, locals := 0 } : Room) #[(.int p1)] h0 (fun v h L => ∃ b, v = some (.ref b) ∧ Fr Z.heap.size L ∧ Keep h0 h []) := by
  refine own_con (ls := #[.val (.int p1)]) (pn_java_lang_StringLatin1) (fun m => by first | (simp [entryFrame, mkF, argsToLocals, Value.category]; done) | rfl) ?_
  intro p e s m below meth c s₁ hx hby hml0 hown0 hnm0 hret0 hlk hZ X0 e0
  have hml : c.maxLocals = 1 := hml0
  have hown : s.vm.findClass "java/lang/StringLatin1" = some m.cls := hown0
  have hnm : meth.name = "toBytes" := hnm0
  have hret : meth.sig.returnType = (some (.array .byte)) := hret0
  have F120 := Fr.nil Z.heap.size
  have F121 := Keep.refl h0 []
  refine own_step (T' := s₁) (g' := (mkF m 1 #[.val (.int p1)] [(.int (1 : Int32))])) (fun _ kk => XS.iconst X0.here hx rfl (hb hby dtb_0) kk) ?_
  obtain ⟨T123, h123, cA123, X123, e123, E123, A123, st123⟩ := newP X0 hx hZ (aty := .byte) (w27 hw) e0 (g := (mkF m 1 #[.val (.int p1)] [(.int (1 : Int32))])) rfl (hb hby dtb_1) rfl (by decide) (cap := 1) (by decide) (by decide) (by decide) (by decide)
  obtain ⟨a122, g123⟩ : ∃ z, z = h0.size := ⟨_, rfl⟩
  rw [← g123] at A123 st123
  have ge124 : Z.heap.size ≤ a122 := by rw [g123]; exact O0.2.1
  have ng125 : h0.size ≤ a122 := by rw [g123]; exact F121.1
  have F126 := O0.ext E123
  have F127 := F121.ext E123
  have F128 : Arv Z h123 a122 cA123 .byte (1 : Int32) [] (.int 0) := Arv.new A123 (by decide)
  refine own_step (T' := T123) (g' := (mkF m 3 #[.val (.int p1)] [(.ref a122)])) (fun _ kk => st123 _ kk) ?_
  refine own_step (T' := T123) (g' := (mkF m 4 #[.val (.int p1)] [(.ref a122), (.ref a122)])) (fun _ kk => XS.dup X123.here hx rfl (hb hby dtb_3) rfl rfl kk) ?_
  refine own_step (T' := T123) (g' := (mkF m 5 #[.val (.int p1)] [(.int (0 : Int32)), (.ref a122), (.ref a122)])) (fun _ kk => XS.iconst X123.here hx rfl (hb hby dtb_4) kk) ?_
  refine own_step (T' := T123) (g' := (mkF m 6 #[.val (.int p1)] [(.int p1), (.int (0 : Int32)), (.ref a122), (.ref a122)])) (fun _ kk => XS.iloadN X123.here hx rfl (hb hby dtb_5) rfl kk) ?_
  refine own_step (T' := T123) (g' := (mkF m 7 #[.val (.int p1)] [(.int (p1.toInt8.toInt32)), (.int (0 : Int32)), (.ref a122), (.ref a122)])) (fun _ kk => XS.i2b X123.here hx rfl (hb hby dtb_6) rfl kk) ?_
  obtain ⟨Ac129, Ar129, q129, Sz129, Nn129, Hs129, Gs129⟩ := F128
  obtain ⟨T129, h129, X129, e129, W129, st129⟩ := stB X123 hx hZ e123 Ar129 (j := (0 : Int32)) (x := (p1.toInt8.toInt32)) (inb_of Sz129 ⟨by decide, by decide⟩) (g := (mkF m 7 #[.val (.int p1)] [(.int (p1.toInt8.toInt32)), (.int (0 : Int32)), (.ref a122), (.ref a122)])) rfl rfl (hb hby dtb_7)
  have F130 := Fr.snoc X129 F120 ge124
  have F131 := F126.wr W129 ge124
  have F132 := F127.wr W129 (Or.inr ng125)
  refine own_step (T' := T129) (g' := (mkF m 8 #[.val (.int p1)] [(.ref a122)])) (fun _ kk => st129 _ kk) ?_
  exact own_retA X129 hx hlk (t := (.array .byte)) hret rfl rfl rfl (hb hby dtb_8) e129 ⟨_, rfl, F130, F132⟩ (by decide) (by decide)
theorem dsi_0 : decode jdk_42_method_151_code 0 = .ok (.aload_n 0, 1) := by decide +kernel
theorem dsi_1 : decode jdk_42_method_151_code 1 = .ok (.invokespecial 1, 3) := by decide +kernel
theorem dsi_4 : decode jdk_42_method_151_code 4 = .ok (.aload_n 0, 1) := by decide +kernel
theorem dsi_5 : decode jdk_42_method_151_code 5 = .ok (.aload_n 1, 1) := by decide +kernel
theorem dsi_6 : decode jdk_42_method_151_code 6 = .ok (.putfield 9, 3) := by decide +kernel
theorem dsi_9 : decode jdk_42_method_151_code 9 = .ok (.aload_n 0, 1) := by decide +kernel
theorem dsi_10 : decode jdk_42_method_151_code 10 = .ok (.iload_n 2, 1) := by decide +kernel
theorem dsi_11 : decode jdk_42_method_151_code 11 = .ok (.putfield 15, 3) := by decide +kernel
theorem dsi_14 : decode jdk_42_method_151_code 14 = .ok (.return_, 1) := by decide +kernel
set_option maxRecDepth 65536 in
set_option maxHeartbeats 40000000 in
theorem rm_si (l : Launch) (Z : State) (a0 : Array Value) (hw : ∀ d ∈ tables_1, d.before a0 Z = true) (a1 b2 : Addr) (h0 : Heap) (O0 : Old Z Z.heap.size h0) (O1 : own_Obj Z h0 a1 "java/lang/String") (g1 : Z.heap.size ≤ a1) :
    own_Con l Z (⟨"java/lang/String", "<init>", "([BB)V"⟩ : MethodName) jdk_42_method_151_code 3 none ({ frames := 1, cells := 0, slots := 0, locals := 12 } : Room) #[(.ref a1), (.ref b2), (.int (0 : Int32))] h0 (fun v h L => v = none ∧ Fr Z.heap.size L ∧ Keep h0 h [a1]) := by
  refine own_con (ls := #[.val (.ref a1), .val (.ref b2), .val (.int (0 : Int32))]) (pn_java_lang_String) (fun m => by first | (simp [entryFrame, mkF, argsToLocals, Value.category]; done) | rfl) ?_
  intro p e s m below meth c s₁ hx hby hml0 hown0 hnm0 hret0 hlk hZ X0 e0
  have hml : c.maxLocals = 3 := hml0
  have hown : s.vm.findClass "java/lang/String" = some m.cls := hown0
  have hnm : meth.name = "<init>" := hnm0
  have hret : meth.sig.returnType = none := hret0
  have F133 := Fr.nil Z.heap.size
  have F134 := Keep.refl h0 []
  have F135 := Keep.refl h0 [a1]
  refine own_step (T' := s₁) (g' := (mkF m 1 #[.val (.ref a1), .val (.ref b2), .val (.int (0 : Int32))] [(.ref a1)])) (fun _ kk => XS.aloadN X0.here hx rfl (hb hby dsi_0) rfl rfl kk) ?_
  obtain ⟨T136, X136, e136, st136⟩ := initO X0 hx hZ hown (w19 hw) (w20 hw) (w21 hw) e0 (g := (mkF m 1 #[.val (.ref a1), .val (.ref b2), .val (.int (0 : Int32))] [(.ref a1)])) rfl (by rw [hml]; rfl) rfl (hb hby dsi_1) (by decide) (W := 0) (by show 2 * 0 + _ ≤ _; exact Nat.le_of_eq rfl) (by decide)
  refine own_step (T' := T136) (g' := (mkF m 4 #[.val (.ref a1), .val (.ref b2), .val (.int (0 : Int32))] [])) (fun _ kk => st136 _ kk) ?_
  refine own_step (T' := T136) (g' := (mkF m 5 #[.val (.ref a1), .val (.ref b2), .val (.int (0 : Int32))] [(.ref a1)])) (fun _ kk => XS.aloadN X136.here hx rfl (hb hby dsi_4) rfl rfl kk) ?_
  refine own_step (T' := T136) (g' := (mkF m 6 #[.val (.ref a1), .val (.ref b2), .val (.int (0 : Int32))] [(.ref b2), (.ref a1)])) (fun _ kk => XS.aloadN X136.here hx rfl (hb hby dsi_5) rfl rfl kk) ?_
  obtain ⟨u137, Fu137⟩ := O1.fld (w10 hw) (Or.inr (w37 hw) : Laid Z a0 "java/lang/String" "java/lang/String" "value" "[B")
  obtain ⟨T137, h137, X137, e137, W137, st137⟩ := putF X136 hx hZ hown (host := "") (Or.inl (w36 hw)) Via.refl e136 Fu137 O1.1 (Or.inr ⟨(w37 hw), rfl, hnm⟩) (w10 hw) (ty := (.array .byte)) (by decide) rfl rfl (g := (mkF m 6 #[.val (.ref a1), .val (.ref b2), .val (.int (0 : Int32))] [(.ref b2), (.ref a1)])) rfl rfl (hb hby dsi_6)
  have F138 := Fr.snoc X137 F133 g1
  have F139 := O1.wr W137
  have F140 := O0.wr W137 g1
  have F141 := F135.wr W137 (Or.inl (List.mem_of_getElem? (i := 0) rfl))
  have F142 : Fld Z h137 a1 "java/lang/String" "value" "[B" (.ref b2) := Fu137.same W137
  refine own_step (T' := T137) (g' := (mkF m 9 #[.val (.ref a1), .val (.ref b2), .val (.int (0 : Int32))] [])) (fun _ kk => st137 _ kk) ?_
  refine own_step (T' := T137) (g' := (mkF m 10 #[.val (.ref a1), .val (.ref b2), .val (.int (0 : Int32))] [(.ref a1)])) (fun _ kk => XS.aloadN X137.here hx rfl (hb hby dsi_9) rfl rfl kk) ?_
  refine own_step (T' := T137) (g' := (mkF m 11 #[.val (.ref a1), .val (.ref b2), .val (.int (0 : Int32))] [(.int (0 : Int32)), (.ref a1)])) (fun _ kk => XS.iloadN X137.here hx rfl (hb hby dsi_10) rfl kk) ?_
  obtain ⟨u143, Fu143⟩ := F139.fld (w10 hw) (Or.inr (w35 hw) : Laid Z a0 "java/lang/String" "java/lang/String" "coder" "B")
  obtain ⟨T143, h143, X143, e143, W143, st143⟩ := putF X137 hx hZ hown (host := "") (Or.inl (w34 hw)) Via.refl e137 Fu143 F139.1 (Or.inr ⟨(w35 hw), rfl, hnm⟩) (w10 hw) (ty := .byte) (by decide) rfl rfl (g := (mkF m 11 #[.val (.ref a1), .val (.ref b2), .val (.int (0 : Int32))] [(.int (0 : Int32)), (.ref a1)])) rfl rfl (hb hby dsi_11)
  have F144 := Fr.snoc X143 F138 g1
  have F145 := F139.wr W143
  have F146 := F142.other W143 (Or.inr (slot_ne (Or.inr (w37 hw) : Laid Z a0 "java/lang/String" "java/lang/String" "value" "[B") (Or.inr (w35 hw) : Laid Z a0 "java/lang/String" "java/lang/String" "coder" "B") (by decide) (t := (.array .byte)) (t' := .byte) (by decide) (by decide)))
  have F147 := F140.wr W143 g1
  have F148 := F141.wr W143 (Or.inl (List.mem_of_getElem? (i := 0) rfl))
  have F149 : Fld Z h143 a1 "java/lang/String" "coder" "B" (.int (0 : Int32)) := Fu143.same W143
  refine own_step (T' := T143) (g' := (mkF m 14 #[.val (.ref a1), .val (.ref b2), .val (.int (0 : Int32))] [])) (fun _ kk => st143 _ kk) ?_
  exact own_retV X143 hx hlk hret (hb hby dsi_14) e143 ⟨rfl, F144, F148⟩ (by decide) (by decide)
theorem dvo_0 : decode jdk_42_method_139_code 0 = .ok (.getstatic 38, 3) := by decide +kernel
theorem dvo_3 : decode jdk_42_method_139_code 3 = .ok (.ifCond .eq 23, 3) := by decide +kernel
theorem dvo_6 : decode jdk_42_method_139_code 6 = .ok (.iload_n 0, 1) := by decide +kernel
theorem dvo_7 : decode jdk_42_method_139_code 7 = .ok (.invokestatic 1015, 3) := by decide +kernel
theorem dvo_10 : decode jdk_42_method_139_code 10 = .ok (.ifCond .eq 16, 3) := by decide +kernel
theorem dvo_13 : decode jdk_42_method_139_code 13 = .ok (.new 10, 3) := by decide +kernel
theorem dvo_16 : decode jdk_42_method_139_code 16 = .ok (.dup, 1) := by decide +kernel
theorem dvo_17 : decode jdk_42_method_139_code 17 = .ok (.iload_n 0, 1) := by decide +kernel
theorem dvo_18 : decode jdk_42_method_139_code 18 = .ok (.invokestatic 1018, 3) := by decide +kernel
theorem dvo_21 : decode jdk_42_method_139_code 21 = .ok (.iconst 0, 1) := by decide +kernel
theorem dvo_22 : decode jdk_42_method_139_code 22 = .ok (.invokespecial 209, 3) := by decide +kernel
theorem dvo_25 : decode jdk_42_method_139_code 25 = .ok (.areturn, 1) := by decide +kernel
theorem dvo_26 : decode jdk_42_method_139_code 26 = .ok (.new 10, 3) := by decide +kernel
theorem dvo_29 : decode jdk_42_method_139_code 29 = .ok (.dup, 1) := by decide +kernel
theorem dvo_30 : decode jdk_42_method_139_code 30 = .ok (.iload_n 0, 1) := by decide +kernel
theorem dvo_31 : decode jdk_42_method_139_code 31 = .ok (.invokestatic 1021, 3) := by decide +kernel
theorem dvo_34 : decode jdk_42_method_139_code 34 = .ok (.iconst 1, 1) := by decide +kernel
theorem dvo_35 : decode jdk_42_method_139_code 35 = .ok (.invokespecial 209, 3) := by decide +kernel
theorem dvo_38 : decode jdk_42_method_139_code 38 = .ok (.areturn, 1) := by decide +kernel
set_option maxRecDepth 65536 in
set_option maxHeartbeats 40000000 in
theorem rm_vo (l : Launch) (Z : State) (a0 : Array Value) (hw : ∀ d ∈ tables_1, d.before a0 Z = true) (p1 zc : Int32) (h0 : Heap) (O0 : Old Z Z.heap.size h0) (SC : Sta Z Z.heap "java/lang/String" "COMPACT_STRINGS" "Z" (.int zc)) (hzc : ¬ zc = (0 : Int32)) (c2 : p1.toInt ≤ 255) :
    own_Con l Z (⟨"java/lang/String", "valueOf", "(C)Ljava/lang/String;"⟩ : MethodName) jdk_42_method_139_code 1 (some (.object "java/lang/String")) ({ frames := 2, cells := 2, slots := 5, locals := 27 } : Room) #[(.int p1)] h0 (fun v h L => ∃ a, v = some (.ref a) ∧ Fr Z.heap.size L ∧ Keep h0 h []) := by
  refine own_con (ls := #[.val (.int p1)]) (pn_java_lang_String) (fun m => by first | (simp [entryFrame, mkF, argsToLocals, Value.category]; done) | rfl) ?_
  intro p e s m below meth c s₁ hx hby hml0 hown0 hnm0 hret0 hlk hZ X0 e0
  have hml : c.maxLocals = 1 := hml0
  have hown : s.vm.findClass "java/lang/String" = some m.cls := hown0
  have hnm : meth.name = "valueOf" := hnm0
  have hret : meth.sig.returnType = (some (.object "java/lang/String")) := hret0
  have F150 := Fr.nil Z.heap.size
  have F151 := Keep.refl h0 []
  obtain ⟨T152, X152, e152, st152⟩ := getS (host := "") X0 hx hZ hown (w22 hw) Via.refl e0 (SC.ext O0.2) (g := (mkF m 0 #[.val (.int p1)] [])) rfl (hb hby dvo_0)
  refine own_step (T' := T152) (g' := (mkF m 3 #[.val (.int p1)] [(.int zc)])) (fun _ kk => st152 _ kk) ?_
  refine own_step (T' := T152) (g' := (mkF m 6 #[.val (.int p1)] [])) (fun _ kk => XS.ifNo X152.here hx rfl (hb hby dvo_3) rfl ((if0 _ _).trans (feq hzc).1) kk) ?_
  refine own_step (T' := T152) (g' := (mkF m 7 #[.val (.int p1)] [(.int p1)])) (fun _ kk => XS.iloadN X152.here hx rfl (hb hby dvo_6) rfl kk) ?_
  obtain ⟨T154, L154, _, h154, X154, e154, ⟨rfl, Nq153, eh153⟩, st154⟩ := own_callS X152 hx hZ hown (w93 hw) (w94 hw) (w96 hw) (w95 hw) (by decide) (g := (mkF m 7 #[.val (.int p1)] [(.int p1)])) rfl (by rw [hml]; rfl) (argsL := [(.int p1)]) (rest := []) (rm_ce l Z a0 hw p1 _ O0 c2) e152 pd__C_Z rfl rfl (W := 0) (by show 2 * 0 + _ ≤ _; exact Nat.le_of_eq rfl) (hb hby dvo_7) (by decide) (by decide) (by decide) (by decide)
  have F155 := Fr.app F150 Nq153
  have F156 := e154.trans eh153
  refine own_step (T' := T154) (g' := (mkF m 10 #[.val (.int p1)] [(.int (1 : Int32))])) (fun _ kk => st154 _ kk) ?_
  refine own_step (T' := T154) (g' := (mkF m 13 #[.val (.int p1)] [])) (fun _ kk => XS.ifNo X154.here hx rfl (hb hby dvo_10) rfl ((if0 _ _).trans (feq (by decide)).1) kk) ?_
  obtain ⟨T158, h158, X158, e158, E158, A158, D158, U158, st158⟩ := newO X154 hx hZ hown (w97 hw) (w10 hw) (w11 hw) F156 (g := (mkF m 13 #[.val (.int p1)] [])) rfl (hb hby dvo_13) (by decide) (by decide)
  obtain ⟨a157, g158⟩ : ∃ z, z = h0.size := ⟨_, rfl⟩
  rw [← g158] at A158 D158 U158 st158
  have ge159 : Z.heap.size ≤ a157 := by rw [g158]; exact O0.2.1
  have ng160 : h0.size ≤ a157 := by rw [g158]; exact F151.1
  have F161 := O0.ext E158
  have F162 := F151.ext E158
  have F163 : own_Obj Z h158 a157 "java/lang/String" := own_Obj.new A158 U158
  refine own_step (T' := T158) (g' := (mkF m 16 #[.val (.int p1)] [(.ref a157)])) (fun _ kk => st158 _ kk) ?_
  refine own_step (T' := T158) (g' := (mkF m 17 #[.val (.int p1)] [(.ref a157), (.ref a157)])) (fun _ kk => XS.dup X158.here hx rfl (hb hby dvo_16) rfl rfl kk) ?_
  refine own_step (T' := T158) (g' := (mkF m 18 #[.val (.int p1)] [(.int p1), (.ref a157), (.ref a157)])) (fun _ kk => XS.iloadN X158.here hx rfl (hb hby dvo_17) rfl kk) ?_
  obtain ⟨T164, L164, _, h164, X164, e164, ⟨bb, rfl, Nq, Kq⟩, st164⟩ := own_callS X158 hx hZ hown (w98 hw) (w99 hw) (w100 hw) (w95 hw) (by decide) (g := (mkF m 18 #[.val (.int p1)] [(.int p1), (.ref a157), (.ref a157)])) rfl (by rw [hml]; rfl) (argsL := [(.int p1)]) (rest := [(.ref a157), (.ref a157)]) (rm_tb l Z a0 hw p1 _ F161) e158 pd__C__B rfl rfl (W := 2) (by show 2 * 0 + _ ≤ _; exact Nat.le_of_eq rfl) (hb hby dvo_18) (by decide) (by decide) (by decide) (by decide)
  have F165 := Fr.app F155 Nq
  have F166 := F163.keep Kq
  have F167 := F161.keep Kq all0
  have F168 := F162.trans Kq all0
  refine own_step (T' := T164) (g' := (mkF m 21 #[.val (.int p1)] [(.ref bb), (.ref a157), (.ref a157)])) (fun _ kk => st164 _ kk) ?_
  refine own_step (T' := T164) (g' := (mkF m 22 #[.val (.int p1)] [(.int (0 : Int32)), (.ref bb), (.ref a157), (.ref a157)])) (fun _ kk => XS.iconst X164.here hx rfl (hb hby dvo_21) kk) ?_
  obtain ⟨T169, L169, _, h169, X169, e169, ⟨rfl, Nr, Kr⟩, st169⟩ := own_callC X164 hx hZ hown rfl (w101 hw) (w102 hw) (w103 hw) (w11 hw) (by decide) (a := a157) (g := (mkF m 22 #[.val (.int p1)] [(.int (0 : Int32)), (.ref bb), (.ref a157), (.ref a157)])) rfl (by rw [hml]; rfl) (argsL := [(.ref bb), (.int (0 : Int32))]) (rest := [(.ref a157)]) (rm_si l Z a0 hw a157 bb _ F167 F166 ge159) e164 pd___BB_V rfl rfl (W := 1) (by show 2 * 0 + _ ≤ _; exact Nat.le_of_eq rfl) (hb hby dvo_22) (by decide) (by decide) (by decide) (by decide)
  have F170 := Fr.app F165 Nr
  have F171 := F166.keep Kr
  have F172 := F167.keep Kr (allS ge159 all0)
  have F173 := F168.trans Kr (allS (Or.inr ng160) all0)
  refine own_step (T' := T169) (g' := (mkF m 25 #[.val (.int p1)] [(.ref a157)])) (fun _ kk => st169 _ kk) ?_
  exact own_retA X169 hx hlk (t := (.object "java/lang/String")) hret rfl rfl rfl (hb hby dvo_25) e169 ⟨_, rfl, F170, F173⟩ (by decide) (by decide)
theorem dli_0 : decode jdk_35_method_26_code 0 = .ok (.aload_n 0, 1) := by decide +kernel
theorem dli_1 : decode jdk_35_method_26_code 1 = .ok (.invokespecial 270, 3) := by decide +kernel
theorem dli_4 : decode jdk_35_method_26_code 4 = .ok (.aload_n 0, 1) := by decide +kernel
theorem dli_5 : decode jdk_35_method_26_code 5 = .ok (.lload_n 1, 1) := by decide +kernel
theorem dli_6 : decode jdk_35_method_26_code 6 = .ok (.putfield 273, 3) := by decide +kernel
theorem dli_9 : decode jdk_35_method_26_code 9 = .ok (.return_, 1) := by decide +kernel
set_option maxRecDepth 65536 in
set_option maxHeartbeats 40000000 in
theorem rm_li (l : Launch) (Z : State) (a0 : Array Value) (hw : ∀ d ∈ tables_1, d.before a0 Z = true) (a1 : Addr) (q2 : Int64) (h0 : Heap) (O0 : Old Z Z.heap.size h0) (O1 : own_Obj Z h0 a1 "java/lang/Long") (g1 : Z.heap.size ≤ a1) :
    own_Con l Z (⟨"java/lang/Long", "<init>", "(J)V"⟩ : MethodName) jdk_35_method_26_code 3 none ({ frames := 2, cells := 0, slots := 0, locals := 24 } : Room) #[(.ref a1), (.long q2)] h0 (fun v h L => v = none ∧ Fr Z.heap.size L ∧ Keep h0 h [a1]) := by
  refine own_con (ls := #[.val (.ref a1), .val (.long q2), .second]) (pn_java_lang_Long) (fun m => by first | (simp [entryFrame, mkF, argsToLocals, Value.category]; done) | rfl) ?_
  intro p e s m below meth c s₁ hx hby hml0 hown0 hnm0 hret0 hlk hZ X0 e0
  have hml : c.maxLocals = 3 := hml0
  have hown : s.vm.findClass "java/lang/Long" = some m.cls := hown0
  have hnm : meth.name = "<init>" := hnm0
  have hret : meth.sig.returnType = none := hret0
  have F174 := Fr.nil Z.heap.size
  have F175 := Keep.refl h0 []
  have F176 := Keep.refl h0 [a1]
  refine own_step (T' := s₁) (g' := (mkF m 1 #[.val (.ref a1), .val (.long q2), .second] [(.ref a1)])) (fun _ kk => XS.aloadN X0.here hx rfl (hb hby dli_0) rfl rfl kk) ?_
  obtain ⟨T178, L178, _, h178, X178, e178, ⟨rfl, Nq177, eh177⟩, st178⟩ := own_callC X0 hx hZ hown rfl (w123 hw) (w124 hw) (w128 hw) (w127 hw) (by decide) (a := a1) (g := (mkF m 1 #[.val (.ref a1), .val (.long q2), .second] [(.ref a1)])) rfl (by rw [hml]; rfl) (argsL := []) (rest := []) (rm_num l Z a0 hw a1 _ O0) e0 pd___V rfl rfl (W := 0) (by show 2 * 0 + _ ≤ _; exact Nat.le_of_eq rfl) (hb hby dli_1) (by decide) (by decide) (by decide) (by decide)
  have F179 := Fr.app F174 Nq177
  have F180 := e178.trans eh177
  refine own_step (T' := T178) (g' := (mkF m 4 #[.val (.ref a1), .val (.long q2), .second] [])) (fun _ kk => st178 _ kk) ?_
  refine own_step (T' := T178) (g' := (mkF m 5 #[.val (.ref a1), .val (.long q2), .second] [(.ref a1)])) (fun _ kk => XS.aloadN X178.here hx rfl (hb hby dli_4) rfl rfl kk) ?_
  refine own_step (T' := T178) (g' := (mkF m 6 #[.val (.ref a1), .val (.long q2), .second] [(.long q2), (.ref a1)])) (fun _ kk => XS.lloadN X178.here hx rfl (hb hby dli_5) rfl kk) ?_
  obtain ⟨u181, Fu181⟩ := O1.fld (w118 hw) (Or.inr (w131 hw) : Laid Z a0 "java/lang/Long" "java/lang/Long" "value" "J")
  obtain ⟨T181, h181, X181, e181, W181, st181⟩ := putF X178 hx hZ hown (host := "") (Or.inl (w130 hw)) Via.refl F180 Fu181 O1.1 (Or.inr ⟨(w131 hw), rfl, hnm⟩) (w118 hw) (ty := .long) (by decide) rfl rfl (g := (mkF m 6 #[.val (.ref a1), .val (.long q2), .second] [(.long q2), (.ref a1)])) rfl rfl (hb hby dli_6)
  have F182 := Fr.snoc X181 F179 g1
  have F183 := O1.wr W181
  have F184 := O0.wr W181 g1
  have F185 := F176.wr W181 (Or.inl (List.mem_of_getElem? (i := 0) rfl))
  have F186 : Fld Z h181 a1 "java/lang/Long" "value" "J" (.long q2) := Fu181.same W181
  refine own_step (T' := T181) (g' := (mkF m 9 #[.val (.ref a1), .val (.long q2), .second] [])) (fun _ kk => st181 _ kk) ?_
  exact own_retV X181 hx hlk hret (hb hby dli_9) e181 ⟨rfl, F182, F185⟩ (by decide) (by decide)
theorem dlv_0 : decode jdk_35_method_24_code 0 = .ok (.sipush 128, 3) := by decide +kernel
theorem dlv_3 : decode jdk_35_method_24_code 3 = .ok (.istore_n 2, 1) := by decide +kernel
theorem dlv_4 : decode jdk_35_method_24_code 4 = .ok (.lload_n 0, 1) := by decide +kernel
theorem dlv_5 : decode jdk_35_method_24_code 5 = .ok (.ldc2_w 230, 3) := by decide +kernel
theorem dlv_8 : decode jdk_35_method_24_code 8 = .ok (.lcmp, 1) := by decide +kernel
theorem dlv_9 : decode jdk_35_method_24_code 9 = .ok (.ifCond .lt 22, 3) := by decide +kernel
theorem dlv_12 : decode jdk_35_method_24_code 12 = .ok (.lload_n 0, 1) := by decide +kernel
theorem dlv_13 : decode jdk_35_method_24_code 13 = .ok (.ldc2_w 232, 3) := by decide +kernel
theorem dlv_16 : decode jdk_35_method_24_code 16 = .ok (.lcmp, 1) := by decide +kernel
theorem dlv_17 : decode jdk_35_method_24_code 17 = .ok (.ifCond .gt 14, 3) := by decide +kernel
theorem dlv_20 : decode jdk_35_method_24_code 20 = .ok (.getstatic 234, 3) := by decide +kernel
theorem dlv_23 : decode jdk_35_method_24_code 23 = .ok (.lload_n 0, 1) := by decide +kernel
theorem dlv_24 : decode jdk_35_method_24_code 24 = .ok (.l2i, 1) := by decide +kernel
theorem dlv_25 : decode jdk_35_method_24_code 25 = .ok (.sipush 128, 3) := by decide +kernel
theorem dlv_28 : decode jdk_35_method_24_code 28 = .ok (.iadd, 1) := by decide +kernel
theorem dlv_29 : decode jdk_35_method_24_code 29 = .ok (.aaload, 1) := by decide +kernel
theorem dlv_30 : decode jdk_35_method_24_code 30 = .ok (.areturn, 1) := by decide +kernel
theorem dlv_31 : decode jdk_35_method_24_code 31 = .ok (.new 1, 3) := by decide +kernel
theorem dlv_34 : decode jdk_35_method_24_code 34 = .ok (.dup, 1) := by decide +kernel
theorem dlv_35 : decode jdk_35_method_24_code 35 = .ok (.lload_n 0, 1) := by decide +kernel
theorem dlv_36 : decode jdk_35_method_24_code 36 = .ok (.invokespecial 240, 3) := by decide +kernel
theorem dlv_39 : decode jdk_35_method_24_code 39 = .ok (.areturn, 1) := by decide +kernel
set_option maxRecDepth 65536 in
set_option maxHeartbeats 40000000 in
theorem rm_lv (l : Launch) (Z : State) (a0 : Array Value) (hw : ∀ d ∈ tables_1, d.before a0 Z = true) (q1 : Int64) (ca : Addr) (cl : Cell) (h0 : Heap) (O0 : Old Z Z.heap.size h0) (SL : Sta Z Z.heap "java/lang/Long$LongCache" "cache" "[Ljava/lang/Long;" (.ref ca)) (AL : Arr Z Z.heap ca cl (.object "java/lang/Long")) (hin : ∀ j : Int32, ¬ j < 0 → j < 256 → ¬ (j < 0 ∨ cl.slots.size ≤ j.toNatClampNeg)) (hcache : ∀ j : Int32, ¬ j < 0 → j < 256 → ∃ u, cl.slots[j.toNatClampNeg]? = some u ∧ u.isRef = true) :
    own_Con l Z (⟨"java/lang/Long", "valueOf", "(J)Ljava/lang/Long;"⟩ : MethodName) jdk_35_method_24_code 3 (some (.object "java/lang/Long")) ({ frames := 3, cells := 1, slots := 1, locals := 39 } : Room) #[(.long q1)] h0 (fun v h L => ∃ u, v = some u ∧ u.isRef = true ∧ u.category = 1 ∧ Fr Z.heap.size L ∧ Keep h0 h []) := by
  refine own_con (ls := #[.val (.long q1), .second, .unset]) (pn_java_lang_Long) (fun m => by first | (simp [entryFrame, mkF, argsToLocals, Value.category]; done) | rfl) ?_
  intro p e s m below meth c s₁ hx hby hml0 hown0 hnm0 hret0 hlk hZ X0 e0
  have hml : c.maxLocals = 3 := hml0
  have hown : s.vm.findClass "java/lang/Long" = some m.cls := hown0
  have hnm : meth.name = "valueOf" := hnm0
  have hret : meth.sig.returnType = (some (.object "java/lang/Long")) := hret0
  have F187 := Fr.nil Z.heap.size
  have F188 := Keep.refl h0 []
  refine own_step (T' := s₁) (g' := (mkF m 3 #[.val (.long q1), .second, .unset] [(.int (128 : Int32))])) (fun _ kk => XS.sipush X0.here hx rfl (hb hby dlv_0) kk) ?_
  refine own_step (T' := s₁) (g' := (mkF m 4 #[.val (.long q1), .second, .val (.int (128 : Int32))] [])) (fun _ kk => XS.istoreN X0.here hx rfl (hb hby dlv_3) rfl (l' := #[.val (.long q1), .second, .val (.int (128 : Int32))]) rfl kk) ?_
  refine own_step (T' := s₁) (g' := (mkF m 5 #[.val (.long q1), .second, .val (.int (128 : Int32))] [(.long q1)])) (fun _ kk => XS.lloadN X0.here hx rfl (hb hby dlv_4) rfl kk) ?_
  refine own_step (T' := s₁) (g' := (mkF m 8 #[.val (.long q1), .second, .val (.int (128 : Int32))] [(.long (-128 : Int64)), (.long q1)])) (fun _ kk => X0.ldc2Long hx hown (mvT hZ (w111 hw)) (g := (mkF m 5 #[.val (.long q1), .second, .val (.int (128 : Int32))] [(.long q1)])) rfl (hb hby dlv_5) _ kk) ?_
  refine own_step (T' := s₁) (g' := (mkF m 9 #[.val (.long q1), .second, .val (.int (128 : Int32))] [(.int (lcmpW q1 (-128 : Int64)))])) (fun _ kk => XS.lcmp X0.here hx rfl (hb hby dlv_8) rfl kk) ?_
  by_cases c189 : (lcmpW q1 (-128 : Int64)) < (0 : Int32)
  · refine own_step (T' := s₁) (g' := (mkF m 31 #[.val (.long q1), .second, .val (.int (128 : Int32))] [])) (fun _ kk => XS.ifYes X0.here hx rfl (pc0 := 9) (pc' := 31) rfl (hb hby dlv_9) rfl ((if0 _ _).trans (tlt c189).1) (by decide) (by decide) kk) ?_
    obtain ⟨T191, h191, X191, e191, E191, A191, D191, U191, st191⟩ := newO X0 hx hZ hown (w117 hw) (w118 hw) (w109 hw) e0 (g := (mkF m 31 #[.val (.long q1), .second, .val (.int (128 : Int32))] [])) rfl (hb hby dlv_31) (by decide) (by decide)
    obtain ⟨a190, g191⟩ : ∃ z, z = h0.size := ⟨_, rfl⟩
    rw [← g191] at A191 D191 U191 st191
    have ge192 : Z.heap.size ≤ a190 := by rw [g191]; exact O0.2.1
    have ng193 : h0.size ≤ a190 := by rw [g191]; exact F188.1
    have F194 := O0.ext E191
    have F195 := F188.ext E191
    have F196 : own_Obj Z h191 a190 "java/lang/Long" := own_Obj.new A191 U191
    refine own_step (T' := T191) (g' := (mkF m 34 #[.val (.long q1), .second, .val (.int (128 : Int32))] [(.ref a190)])) (fun _ kk => st191 _ kk) ?_
    refine own_step (T' := T191) (g' := (mkF m 35 #[.val (.long q1), .second, .val (.int (128 : Int32))] [(.ref a190), (.ref a190)])) (fun _ kk => XS.dup X191.here hx rfl (hb hby dlv_34) rfl rfl kk) ?_
    refine own_step (T' := T191) (g' := (mkF m 36 #[.val (.long q1), .second, .val (.int (128 : Int32))] [(.long q1), (.ref a190), (.ref a190)])) (fun _ kk => XS.lloadN X191.here hx rfl (hb hby dlv_35) rfl kk) ?_
    obtain ⟨T197, L197, _, h197, X197, e197, ⟨rfl, Nq, Kq⟩, st197⟩ := own_callC X191 hx hZ hown rfl (w119 hw) (w120 hw) (w122 hw) (w109 hw) (by decide) (a := a190) (g := (mkF m 36 #[.val (.long q1), .second, .val (.int (128 : Int32))] [(.long q1), (.ref a190), (.ref a190)])) rfl (by rw [hml]; rfl) (argsL := [(.long q1)]) (rest := [(.ref a190)]) (rm_li l Z a0 hw a190 q1 _ F194 F196 ge192) e191 pd__J_V rfl rfl (W := 1) (by show 2 * 0 + _ ≤ _; exact Nat.le_of_eq rfl) (hb hby dlv_36) (by decide) (by decide) (by decide) (by decide)
    have F198 := Fr.app F187 Nq
    have F199 := F196.keep Kq
    have F200 := F194.keep Kq (allS ge192 all0)
    have F201 := F195.trans Kq (allS (Or.inr ng193) all0)
    refine own_step (T' := T197) (g' := (mkF m 39 #[.val (.long q1), .second, .val (.int (128 : Int32))] [(.ref a190)])) (fun _ kk => st197 _ kk) ?_
    exact own_retA X197 hx hlk (t := (.object "java/lang/Long")) hret rfl rfl rfl (hb hby dlv_39) e197 ⟨_, rfl, rfl, rfl, F198, F201⟩ (by decide) (by decide)
  · refine own_step (T' := s₁) (g' := (mkF m 12 #[.val (.long q1), .second, .val (.int (128 : Int32))] [])) (fun _ kk => XS.ifNo X0.here hx rfl (hb hby dlv_9) rfl ((if0 _ _).trans (flt c189).1) kk) ?_
    refine own_step (T' := s₁) (g' := (mkF m 13 #[.val (.long q1), .second, .val (.int (128 : Int32))] [(.long q1)])) (fun _ kk => XS.lloadN X0.here hx rfl (hb hby dlv_12) rfl kk) ?_
    refine own_step (T' := s₁) (g' := (mkF m 16 #[.val (.long q1), .second, .val (.int (128 : Int32))] [(.long (127 : Int64)), (.long q1)])) (fun _ kk => X0.ldc2Long hx hown (mvT hZ (w112 hw)) (g := (mkF m 13 #[.val (.long q1), .second, .val (.int (128 : Int32))] [(.long q1)])) rfl (hb hby dlv_13) _ kk) ?_
    refine own_step (T' := s₁) (g' := (mkF m 17 #[.val (.long q1), .second, .val (.int (128 : Int32))] [(.int (lcmpW q1 (127 : Int64)))])) (fun _ kk => XS.lcmp X0.here hx rfl (hb hby dlv_16) rfl kk) ?_
    by_cases c202 : (0 : Int32) < (lcmpW q1 (127 : Int64))
    · refine own_step (T' := s₁) (g' := (mkF m 31 #[.val (.long q1), .second, .val (.int (128 : Int32))] [])) (fun _ kk => XS.ifYes X0.here hx rfl (pc0 := 17) (pc' := 31) rfl (hb hby dlv_17) rfl ((if0 _ _).trans (tlt c202).2.2.1) (by decide) (by decide) kk) ?_
      obtain ⟨T204, h204, X204, e204, E204, A204, D204, U204, st204⟩ := newO X0 hx hZ hown (w117 hw) (w118 hw) (w109 hw) e0 (g := (mkF m 31 #[.val (.long q1), .second, .val (.int (128 : Int32))] [])) rfl (hb hby dlv_31) (by decide) (by decide)
      obtain ⟨a203, g204⟩ : ∃ z, z = h0.size := ⟨_, rfl⟩
      rw [← g204] at A204 D204 U204 st204
      have ge205 : Z.heap.size ≤ a203 := by rw [g204]; exact O0.2.1
      have ng206 : h0.size ≤ a203 := by rw [g204]; exact F188.1
      have F207 := O0.ext E204
      have F208 := F188.ext E204
      have F209 : own_Obj Z h204 a203 "java/lang/Long" := own_Obj.new A204 U204
      refine own_step (T' := T204) (g' := (mkF m 34 #[.val (.long q1), .second, .val (.int (128 : Int32))] [(.ref a203)])) (fun _ kk => st204 _ kk) ?_
      refine own_step (T' := T204) (g' := (mkF m 35 #[.val (.long q1), .second, .val (.int (128 : Int32))] [(.ref a203), (.ref a203)])) (fun _ kk => XS.dup X204.here hx rfl (hb hby dlv_34) rfl rfl kk) ?_
      refine own_step (T' := T204) (g' := (mkF m 36 #[.val (.long q1), .second, .val (.int (128 : Int32))] [(.long q1), (.ref a203), (.ref a203)])) (fun _ kk => XS.lloadN X204.here hx rfl (hb hby dlv_35) rfl kk) ?_
      obtain ⟨T210, L210, _, h210, X210, e210, ⟨rfl, Nq, Kq⟩, st210⟩ := own_callC X204 hx hZ hown rfl (w119 hw) (w120 hw) (w122 hw) (w109 hw) (by decide) (a := a203) (g := (mkF m 36 #[.val (.long q1), .second, .val (.int (128 : Int32))] [(.long q1), (.ref a203), (.ref a203)])) rfl (by rw [hml]; rfl) (argsL := [(.long q1)]) (rest := [(.ref a203)]) (rm_li l Z a0 hw a203 q1 _ F207 F209 ge205) e204 pd__J_V rfl rfl (W := 1) (by show 2 * 0 + _ ≤ _; exact Nat.le_of_eq rfl) (hb hby dlv_36) (by decide) (by decide) (by decide) (by decide)
      have F211 := Fr.app F187 Nq
      have F212 := F209.keep Kq
      have F213 := F207.keep Kq (allS ge205 all0)
      have F214 := F208.trans Kq (allS (Or.inr ng206) all0)
      refine own_step (T' := T210) (g' := (mkF m 39 #[.val (.long q1), .second, .val (.int (128 : Int32))] [(.ref a203)])) (fun _ kk => st210 _ kk) ?_
      exact own_retA X210 hx hlk (t := (.object "java/lang/Long")) hret rfl rfl rfl (hb hby dlv_39) e210 ⟨_, rfl, rfl, rfl, F211, F214⟩ (by decide) (by decide)
    · refine own_step (T' := s₁) (g' := (mkF m 20 #[.val (.long q1), .second, .val (.int (128 : Int32))] [])) (fun _ kk => XS.ifNo X0.here hx rfl (hb hby dlv_17) rfl ((if0 _ _).trans (flt c202).2.2.1) kk) ?_
      obtain ⟨T215, X215, e215, st215⟩ := getS (host := "") X0 hx hZ hown (w113 hw) Via.refl e0 (SL.ext O0.2) (g := (mkF m 20 #[.val (.long q1), .second, .val (.int (128 : Int32))] [])) rfl (hb hby dlv_20)
      refine own_step (T' := T215) (g' := (mkF m 23 #[.val (.long q1), .second, .val (.int (128 : Int32))] [(.ref ca)])) (fun _ kk => st215 _ kk) ?_
      refine own_step (T' := T215) (g' := (mkF m 24 #[.val (.long q1), .second, .val (.int (128 : Int32))] [(.long q1), (.ref ca)])) (fun _ kk => XS.lloadN X215.here hx rfl (hb hby dlv_23) rfl kk) ?_
      refine own_step (T' := T215) (g' := (mkF m 25 #[.val (.long q1), .second, .val (.int (128 : Int32))] [(.int (q1.toInt32)), (.ref ca)])) (fun _ kk => XS.l2i X215.here hx rfl (hb hby dlv_24) rfl kk) ?_
      refine own_step (T' := T215) (g' := (mkF m 28 #[.val (.long q1), .second, .val (.int (128 : Int32))] [(.int (128 : Int32)), (.int (q1.toInt32)), (.ref ca)])) (fun _ kk => XS.sipush X215.here hx rfl (hb hby dlv_25) kk) ?_
      refine own_step (T' := T215) (g' := (mkF m 29 #[.val (.long q1), .second, .val (.int (128 : Int32))] [(.int ((q1.toInt32) + (128 : Int32))), (.ref ca)])) (fun _ kk => XS.iadd X215.here hx rfl (hb hby dlv_28) rfl kk) ?_
      obtain ⟨uv, hu1, hu2⟩ := hcache (((q1.toInt32) + (128 : Int32))) (own_cache c189 c202).1 (own_cache c189 c202).2
      have Ax := AL.ext O0.2
      refine own_step (T' := T215) (g' := (mkF m 30 #[.val (.long q1), .second, .val (.int (128 : Int32))] [uv])) (fun _ kk => X215.aaload hx (j := ((q1.toInt32) + (128 : Int32))) (v := uv) (by rw [e215]; exact Ax.1) (State.isArrayOf_alike hZ.alike Ax.2.1) rfl Ax.2.2 (hin (((q1.toInt32) + (128 : Int32))) (own_cache c189 c202).1 (own_cache c189 c202).2) hu1 (g := (mkF m 29 #[.val (.long q1), .second, .val (.int (128 : Int32))] [(.int ((q1.toInt32) + (128 : Int32))), (.ref ca)])) rfl rfl (hb hby dlv_29) _ kk) ?_
      exact own_retA X215 hx hlk (t := (.object "java/lang/Long")) hret (own_nref hu2) rfl hu2 (hb hby dlv_30) e215 ⟨_, rfl, hu2, own_cref hu2, F187, F188⟩ (by decide) (by decide)
set_option maxRecDepth 65536 in
set_option maxHeartbeats 40000000 in
theorem rm_law (l : Launch) (Z : State) (a0 : Array Value) (hw : ∀ d ∈ tables_1, d.before a0 Z = true) (p0 p1 p2 p3 p4 p5 zc : Int32) (o0 o1 o2 o3 o4 o5 o6 o7 : Addr) (ca : Addr) (cl : Cell) (h0 : Heap) (O0 : Old Z Z.heap.size h0) (S0 : Sta Z Z.heap "com/example/deltatrace/deltatrace/LogEvent$Op" "SESSION" "Lcom/example/deltatrace/deltatrace/LogEvent$Op;" (.ref o0)) (S1 : Sta Z Z.heap "com/example/deltatrace/deltatrace/LogEvent$Op" "CREATE" "Lcom/example/deltatrace/deltatrace/LogEvent$Op;" (.ref o1)) (S2 : Sta Z Z.heap "com/example/deltatrace/deltatrace/LogEvent$Op" "DELETE" "Lcom/example/deltatrace/deltatrace/LogEvent$Op;" (.ref o2)) (S3 : Sta Z Z.heap "com/example/deltatrace/deltatrace/LogEvent$Op" "SET" "Lcom/example/deltatrace/deltatrace/LogEvent$Op;" (.ref o3)) (S4 : Sta Z Z.heap "com/example/deltatrace/deltatrace/LogEvent$Op" "UNSET" "Lcom/example/deltatrace/deltatrace/LogEvent$Op;" (.ref o4)) (S5 : Sta Z Z.heap "com/example/deltatrace/deltatrace/LogEvent$Op" "ADD" "Lcom/example/deltatrace/deltatrace/LogEvent$Op;" (.ref o5)) (S6 : Sta Z Z.heap "com/example/deltatrace/deltatrace/LogEvent$Op" "REMOVE" "Lcom/example/deltatrace/deltatrace/LogEvent$Op;" (.ref o6)) (S7 : Sta Z Z.heap "com/example/deltatrace/deltatrace/LogEvent$Op" "MOVE" "Lcom/example/deltatrace/deltatrace/LogEvent$Op;" (.ref o7)) (SC : Sta Z Z.heap "java/lang/String" "COMPACT_STRINGS" "Z" (.int zc)) (hzc : ¬ zc = (0 : Int32)) (SL : Sta Z Z.heap "java/lang/Long$LongCache" "cache" "[Ljava/lang/Long;" (.ref ca)) (AL : Arr Z Z.heap ca cl (.object "java/lang/Long")) (hin : ∀ j : Int32, ¬ j < 0 → j < 256 → ¬ (j < 0 ∨ cl.slots.size ≤ j.toNatClampNeg)) (hcache : ∀ j : Int32, ¬ j < 0 → j < 256 → ∃ u, cl.slots[j.toNatClampNeg]? = some u ∧ u.isRef = true) (E0 : Exa Z Z.heap o0 "com/example/deltatrace/deltatrace/LogEvent$Op") (E1 : Exa Z Z.heap o1 "com/example/deltatrace/deltatrace/LogEvent$Op") (E2 : Exa Z Z.heap o2 "com/example/deltatrace/deltatrace/LogEvent$Op") (E3 : Exa Z Z.heap o3 "com/example/deltatrace/deltatrace/LogEvent$Op") (E4 : Exa Z Z.heap o4 "com/example/deltatrace/deltatrace/LogEvent$Op") (E5 : Exa Z Z.heap o5 "com/example/deltatrace/deltatrace/LogEvent$Op") (E6 : Exa Z Z.heap o6 "com/example/deltatrace/deltatrace/LogEvent$Op") (E7 : Exa Z Z.heap o7 "com/example/deltatrace/deltatrace/LogEvent$Op") (F0 : Fld Z Z.heap o0 "com/example/deltatrace/deltatrace/LogEvent$Op" "onList" "Z" (.int 0)) (F1 : Fld Z Z.heap o1 "com/example/deltatrace/deltatrace/LogEvent$Op" "onList" "Z" (.int 0)) (F2 : Fld Z Z.heap o2 "com/example/deltatrace/deltatrace/LogEvent$Op" "onList" "Z" (.int 0)) (F3 : Fld Z Z.heap o3 "com/example/deltatrace/deltatrace/LogEvent$Op" "onList" "Z" (.int 0)) (F4 : Fld Z Z.heap o4 "com/example/deltatrace/deltatrace/LogEvent$Op" "onList" "Z" (.int 0)) (F5 : Fld Z Z.heap o5 "com/example/deltatrace/deltatrace/LogEvent$Op" "onList" "Z" (.int 1)) (F6 : Fld Z Z.heap o6 "com/example/deltatrace/deltatrace/LogEvent$Op" "onList" "Z" (.int 1)) (F7 : Fld Z Z.heap o7 "com/example/deltatrace/deltatrace/LogEvent$Op" "onList" "Z" (.int 1)) :
    own_ConW l Z (fun _ => True) x code maxLocals ret room_1 #[(.int p0), (.int p1), (.int p2), (.int p3), (.int p4), (.int p5)] h0 (fun v h L => v = some (.int 1) ∧ Fr Z.heap.size L) := by
  refine own_conW (ls := #[.val (.int p0), .val (.int p1), .val (.int p2), .val (.int p3), .val (.int p4), .val (.int p5), .unset, .unset, .unset, .unset, .unset, .unset, .unset, .unset, .unset, .unset, .unset, .unset]) (pn_com_example_deltatrace_deltatrace_LogEventOnRootsPinLaw) (fun m => by first | (simp [entryFrame, mkF, argsToLocals, Value.category, maxLocals]; done) | rfl) ?_
  intro p e s m below meth c s₁ hx hby hml0 hown0 hnm0 hret0 hlk hZ X0 e0 hS0 hJ
  have hml : c.maxLocals = 18 := hml0
  have hown : s.vm.findClass "com/example/deltatrace/deltatrace/LogEventOnRootsPinLaw" = some m.cls := hown0
  have hnm : meth.name = "law" := hnm0
  have hret : meth.sig.returnType = (some .boolean) := hret0
  have F216 := Fr.nil Z.heap.size
  have F217 := Keep.refl h0 []
  have seg : ∀ (vm0 : Vm) (k0 : Nat) (T : State) (locs : List Loc) (h : Heap) (x7 b10 b11 : Addr) (k6 nz ez : Int32) (u12 u13 u14 : Value), Stand p l e room_1 (s.setVm vm0) m #[.int p0, .int p1, .int p2, .int p3, .int p4, .int p5] below meth c T locs 10 40 → T.heap = h → Z.Warmed39 vm0 → vm0.findClass "com/example/deltatrace/deltatrace/LogEventOnRootsPinLaw" = some m.cls → s.Since vm0 k0 → k0 ≤ h.size → Fr Z.heap.size locs → Old Z Z.heap.size h → own_P Z o5 o6 o7 x7 → u12.isRef = true → u12.category = 1 → u13.isRef = true → u13.category = 1 → u14.isRef = true → u14.category = 1 → ((u12 = .null ∧ nz = 1) ∨ (u12 ≠ .null ∧ nz = 0)) → own_Fin p e below (own_PostW s room_1 (fun v h L => v = some (.int 1) ∧ Fr Z.heap.size L)) T (mkF m 137 #[.val (.int p0), .val (.int p1), .val (.int p2), .val (.int p3), .val (.int p4), .val (.int p5), .val (.int k6), .val (.ref x7), .val (.int nz), .val (.int ez), .val (.ref b10), .val (.ref b11), .val u12, .val u13, .val u14, .unset, .unset, .unset] []) := by
    intro vm0 k0 T locs h x7 b10 b11 k6 nz ez u12 u13 u14 X1 e1 hZ1 ho1 hS1 hk1 N1 O1 PX r12 c12 r13 c13 r14 c14 hid
    obtain ⟨T219, h219, X219, e219, E219, A219, D219, U219, st219⟩ := newO X1 hx hZ1 ho1 (w38 hw) (w39 hw) (w40 hw) e1 (g := (mkF m 137 #[.val (.int p0), .val (.int p1), .val (.int p2), .val (.int p3), .val (.int p4), .val (.int p5), .val (.int k6), .val (.ref x7), .val (.int nz), .val (.int ez), .val (.ref b10), .val (.ref b11), .val u12, .val u13, .val u14, .unset, .unset, .unset] [])) rfl (hb hby at_137) (by decide) (by decide)
    obtain ⟨a218, g219⟩ : ∃ z, z = h.size := ⟨_, rfl⟩
    rw [← g219] at A219 D219 U219 st219
    have ge220 : Z.heap.size ≤ a218 := by rw [g219]; exact O1.2.1
    have F221 := Nat.le_trans hk1 E219.1
    have F222 := O1.ext E219
    have F223 : own_Obj Z h219 a218 "com/example/deltatrace/deltatrace/LogEvent" := own_Obj.new A219 U219
    refine own_step (T' := T219) (g' := (mkF m 140 #[.val (.int p0), .val (.int p1), .val (.int p2), .val (.int p3), .val (.int p4), .val (.int p5), .val (.int k6), .val (.ref x7), .val (.int nz), .val (.int ez), .val (.ref b10), .val (.ref b11), .val u12, .val u13, .val u14, .unset, .unset, .unset] [(.ref a218)])) (fun _ kk => st219 _ kk) ?_
    refine own_step (T' := T219) (g' := (mkF m 141 #[.val (.int p0), .val (.int p1), .val (.int p2), .val (.int p3), .val (.int p4), .val (.int p5), .val (.int k6), .val (.ref x7), .val (.int nz), .val (.int ez), .val (.ref b10), .val (.ref b11), .val u12, .val u13, .val u14, .unset, .unset, .unset] [(.ref a218), (.ref a218)])) (fun _ kk => XS.dup X219.here hx rfl (hb hby at_140) rfl rfl kk) ?_
    refine own_step (T' := T219) (g' := (mkF m 143 #[.val (.int p0), .val (.int p1), .val (.int p2), .val (.int p3), .val (.int p4), .val (.int p5), .val (.int k6), .val (.ref x7), .val (.int nz), .val (.int ez), .val (.ref b10), .val (.ref b11), .val u12, .val u13, .val u14, .unset, .unset, .unset] [(.int p5), (.ref a218), (.ref a218)])) (fun _ kk => XS.iload X219.here hx rfl (hb hby at_141) rfl kk) ?_
    refine own_step (T' := T219) (g' := (mkF m 145 #[.val (.int p0), .val (.int p1), .val (.int p2), .val (.int p3), .val (.int p4), .val (.int p5), .val (.int k6), .val (.ref x7), .val (.int nz), .val (.int ez), .val (.ref b10), .val (.ref b11), .val u12, .val u13, .val u14, .unset, .unset, .unset] [(.ref x7), (.int p5), (.ref a218), (.ref a218)])) (fun _ kk => XS.aload X219.here hx rfl (hb hby at_143) rfl rfl kk) ?_
    refine own_step (T' := T219) (g' := (mkF m 147 #[.val (.int p0), .val (.int p1), .val (.int p2), .val (.int p3), .val (.int p4), .val (.int p5), .val (.int k6), .val (.ref x7), .val (.int nz), .val (.int ez), .val (.ref b10), .val (.ref b11), .val u12, .val u13, .val u14, .unset, .unset, .unset] [u12, (.ref x7), (.int p5), (.ref a218), (.ref a218)])) (fun _ kk => XS.aload X219.here hx rfl (hb hby at_145) rfl r12 kk) ?_
    refine own_step (T' := T219) (g' := (mkF m 148 #[.val (.int p0), .val (.int p1), .val (.int p2), .val (.int p3), .val (.int p4), .val (.int p5), .val (.int k6), .val (.ref x7), .val (.int nz), .val (.int ez), .val (.ref b10), .val (.ref b11), .val u12, .val u13, .val u14, .unset, .unset, .unset] [.null, u12, (.ref x7), (.int p5), (.ref a218), (.ref a218)])) (fun _ kk => XS.aconstNull X219.here hx rfl (hb hby at_147) kk) ?_
    refine own_step (T' := T219) (g' := (mkF m 150 #[.val (.int p0), .val (.int p1), .val (.int p2), .val (.int p3), .val (.int p4), .val (.int p5), .val (.int k6), .val (.ref x7), .val (.int nz), .val (.int ez), .val (.ref b10), .val (.ref b11), .val u12, .val u13, .val u14, .unset, .unset, .unset] [u13, .null, u12, (.ref x7), (.int p5), (.ref a218), (.ref a218)])) (fun _ kk => XS.aload X219.here hx rfl (hb hby at_148) rfl r13 kk) ?_
    refine own_step (T' := T219) (g' := (mkF m 152 #[.val (.int p0), .val (.int p1), .val (.int p2), .val (.int p3), .val (.int p4), .val (.int p5), .val (.int k6), .val (.ref x7), .val (.int nz), .val (.int ez), .val (.ref b10), .val (.ref b11), .val u12, .val u13, .val u14, .unset, .unset, .unset] [u14, u13, .null, u12, (.ref x7), (.int p5), (.ref a218), (.ref a218)])) (fun _ kk => XS.aload X219.here hx rfl (hb hby at_150) rfl r14 kk) ?_
    refine own_step (T' := T219) (g' := (mkF m 153 #[.val (.int p0), .val (.int p1), .val (.int p2), .val (.int p3), .val (.int p4), .val (.int p5), .val (.int k6), .val (.ref x7), .val (.int nz), .val (.int ez), .val (.ref b10), .val (.ref b11), .val u12, .val u13, .val u14, .unset, .unset, .unset] [.null, u14, u13, .null, u12, (.ref x7), (.int p5), (.ref a218), (.ref a218)])) (fun _ kk => XS.aconstNull X219.here hx rfl (hb hby at_152) kk) ?_
    refine own_step (T' := T219) (g' := (mkF m 155 #[.val (.int p0), .val (.int p1), .val (.int p2), .val (.int p3), .val (.int p4), .val (.int p5), .val (.int k6), .val (.ref x7), .val (.int nz), .val (.int ez), .val (.ref b10), .val (.ref b11), .val u12, .val u13, .val u14, .unset, .unset, .unset] [(.int p4), .null, u14, u13, .null, u12, (.ref x7), (.int p5), (.ref a218), (.ref a218)])) (fun _ kk => XS.iload X219.here hx rfl (hb hby at_153) rfl kk) ?_
    refine own_step (T' := T219) (g' := (mkF m 157 #[.val (.int p0), .val (.int p1), .val (.int p2), .val (.int p3), .val (.int p4), .val (.int p5), .val (.int k6), .val (.ref x7), .val (.int nz), .val (.int ez), .val (.ref b10), .val (.ref b11), .val u12, .val u13, .val u14, .unset, .unset, .unset] [(.int p4), (.int p4), .null, u14, u13, .null, u12, (.ref x7), (.int p5), (.ref a218), (.ref a218)])) (fun _ kk => XS.iload X219.here hx rfl (hb hby at_155) rfl kk) ?_
    refine own_step (T' := T219) (g' := (mkF m 159 #[.val (.int p0), .val (.int p1), .val (.int p2), .val (.int p3), .val (.int p4), .val (.int p5), .val (.int k6), .val (.ref x7), .val (.int nz), .val (.int ez), .val (.ref b10), .val (.ref b11), .val u12, .val u13, .val u14, .unset, .unset, .unset] [(.int p5), (.int p4), (.int p4), .null, u14, u13, .null, u12, (.ref x7), (.int p5), (.ref a218), (.ref a218)])) (fun _ kk => XS.iload X219.here hx rfl (hb hby at_157) rfl kk) ?_
    obtain ⟨T224, L224, _, h224, X224, e224, ⟨rfl, Nq, Kq, Oq, Fop, Fid⟩, st224⟩ := own_callC X219 hx hZ1 ho1 rfl (w41 hw) (w42 hw) (w43 hw) (w40 hw) (by decide) (a := a218) (g := (mkF m 159 #[.val (.int p0), .val (.int p1), .val (.int p2), .val (.int p3), .val (.int p4), .val (.int p5), .val (.int k6), .val (.ref x7), .val (.int nz), .val (.int ez), .val (.ref b10), .val (.ref b11), .val u12, .val u13, .val u14, .unset, .unset, .unset] [(.int p5), (.int p4), (.int p4), .null, u14, u13, .null, u12, (.ref x7), (.int p5), (.ref a218), (.ref a218)])) rfl (by rw [hml]; rfl) (argsL := [(.int p5), (.ref x7), u12, .null, u13, u14, .null, (.int p4), (.int p4), (.int p5)]) (rest := [(.ref a218)]) (rm_le l Z a0 hw a218 p5 x7 u12 u13 u14 p4 p4 p5 _ F222 F223 ge220 r12 c12 r13 c13 r14 c14) e219 pd__ILcom_example_deltatrace_deltatrace_LogEvent_Op_Ljava_lang_String_Ljava_lang_String_Ljava_lang_String_Ljava_lang_Object_Ljava_lang_Object_III_V rfl rfl (W := 1) (by show 2 * 0 + _ ≤ _; exact Nat.le_of_eq rfl) (hb hby at_159) (by decide) (by decide) (by decide) (by decide)
    have F225 := Fr.app N1 Nq
    have F226 := F223.keep Kq
    have F227 := Nat.le_trans F221 Kq.1
    have F228 := F222.keep Kq (allS ge220 all0)
    refine own_step (T' := T224) (g' := (mkF m 162 #[.val (.int p0), .val (.int p1), .val (.int p2), .val (.int p3), .val (.int p4), .val (.int p5), .val (.int k6), .val (.ref x7), .val (.int nz), .val (.int ez), .val (.ref b10), .val (.ref b11), .val u12, .val u13, .val u14, .unset, .unset, .unset] [(.ref a218)])) (fun _ kk => st224 _ kk) ?_
    refine own_step (T' := T224) (g' := (mkF m 164 #[.val (.int p0), .val (.int p1), .val (.int p2), .val (.int p3), .val (.int p4), .val (.int p5), .val (.int k6), .val (.ref x7), .val (.int nz), .val (.int ez), .val (.ref b10), .val (.ref b11), .val u12, .val u13, .val u14, .val (.ref a218), .unset, .unset] [])) (fun _ kk => XS.astore X224.here hx rfl (hb hby at_162) rfl rfl (l' := #[.val (.int p0), .val (.int p1), .val (.int p2), .val (.int p3), .val (.int p4), .val (.int p5), .val (.int k6), .val (.ref x7), .val (.int nz), .val (.int ez), .val (.ref b10), .val (.ref b11), .val u12, .val u13, .val u14, .val (.ref a218), .unset, .unset]) rfl kk) ?_
    refine own_step (T' := T224) (g' := (mkF m 166 #[.val (.int p0), .val (.int p1), .val (.int p2), .val (.int p3), .val (.int p4), .val (.int p5), .val (.int k6), .val (.ref x7), .val (.int nz), .val (.int ez), .val (.ref b10), .val (.ref b11), .val u12, .val u13, .val u14, .val (.ref a218), .unset, .unset] [(.ref x7)])) (fun _ kk => XS.aload X224.here hx rfl (hb hby at_164) rfl rfl kk) ?_
    obtain ⟨E7, ⟨F7x, n5, n6, n7⟩ | ⟨F7x, ho⟩⟩ := PX
    · obtain ⟨T229, X229, e229, st229⟩ := getS (host := "") X224 hx hZ1 ho1 (w70 hw) Via.refl e224 (S5.ext F228.2) (g := (mkF m 166 #[.val (.int p0), .val (.int p1), .val (.int p2), .val (.int p3), .val (.int p4), .val (.int p5), .val (.int k6), .val (.ref x7), .val (.int nz), .val (.int ez), .val (.ref b10), .val (.ref b11), .val u12, .val u13, .val u14, .val (.ref a218), .unset, .unset] [(.ref x7)])) rfl (hb hby at_166)
      refine own_step (T' := T229) (g' := (mkF m 169 #[.val (.int p0), .val (.int p1), .val (.int p2), .val (.int p3), .val (.int p4), .val (.int p5), .val (.int k6), .val (.ref x7), .val (.int nz), .val (.int ez), .val (.ref b10), .val (.ref b11), .val u12, .val u13, .val u14, .val (.ref a218), .unset, .unset] [(.ref o5), (.ref x7)])) (fun _ kk => st229 _ kk) ?_
      refine own_step (T' := T229) (g' := (mkF m 172 #[.val (.int p0), .val (.int p1), .val (.int p2), .val (.int p3), .val (.int p4), .val (.int p5), .val (.int k6), .val (.ref x7), .val (.int nz), .val (.int ez), .val (.ref b10), .val (.ref b11), .val u12, .val u13, .val u14, .val (.ref a218), .unset, .unset] [])) (fun _ kk => acmp X229 hx rfl rfl rfl (pc0 := 169) (pc' := 172) rfl (hb hby at_169) rfl (same := false) (by simpa using n5) (by decide) rfl kk) ?_
      refine own_step (T' := T229) (g' := (mkF m 174 #[.val (.int p0), .val (.int p1), .val (.int p2), .val (.int p3), .val (.int p4), .val (.int p5), .val (.int k6), .val (.ref x7), .val (.int nz), .val (.int ez), .val (.ref b10), .val (.ref b11), .val u12, .val u13, .val u14, .val (.ref a218), .unset, .unset] [(.ref x7)])) (fun _ kk => XS.aload X229.here hx rfl (hb hby at_172) rfl rfl kk) ?_
      obtain ⟨T230, X230, e230, st230⟩ := getS (host := "") X229 hx hZ1 ho1 (w72 hw) Via.refl e229 (S6.ext F228.2) (g := (mkF m 174 #[.val (.int p0), .val (.int p1), .val (.int p2), .val (.int p3), .val (.int p4), .val (.int p5), .val (.int k6), .val (.ref x7), .val (.int nz), .val (.int ez), .val (.ref b10), .val (.ref b11), .val u12, .val u13, .val u14, .val (.ref a218), .unset, .unset] [(.ref x7)])) rfl (hb hby at_174)
      refine own_step (T' := T230) (g' := (mkF m 177 #[.val (.int p0), .val (.int p1), .val (.int p2), .val (.int p3), .val (.int p4), .val (.int p5), .val (.int k6), .val (.ref x7), .val (.int nz), .val (.int ez), .val (.ref b10), .val (.ref b11), .val u12, .val u13, .val u14, .val (.ref a218), .unset, .unset] [(.ref o6), (.ref x7)])) (fun _ kk => st230 _ kk) ?_
      refine own_step (T' := T230) (g' := (mkF m 180 #[.val (.int p0), .val (.int p1), .val (.int p2), .val (.int p3), .val (.int p4), .val (.int p5), .val (.int k6), .val (.ref x7), .val (.int nz), .val (.int ez), .val (.ref b10), .val (.ref b11), .val u12, .val u13, .val u14, .val (.ref a218), .unset, .unset] [])) (fun _ kk => acmp X230 hx rfl rfl rfl (pc0 := 177) (pc' := 180) rfl (hb hby at_177) rfl (same := false) (by simpa using n6) (by decide) rfl kk) ?_
      refine own_step (T' := T230) (g' := (mkF m 182 #[.val (.int p0), .val (.int p1), .val (.int p2), .val (.int p3), .val (.int p4), .val (.int p5), .val (.int k6), .val (.ref x7), .val (.int nz), .val (.int ez), .val (.ref b10), .val (.ref b11), .val u12, .val u13, .val u14, .val (.ref a218), .unset, .unset] [(.ref x7)])) (fun _ kk => XS.aload X230.here hx rfl (hb hby at_180) rfl rfl kk) ?_
      obtain ⟨T231, X231, e231, st231⟩ := getS (host := "") X230 hx hZ1 ho1 (w74 hw) Via.refl e230 (S7.ext F228.2) (g := (mkF m 182 #[.val (.int p0), .val (.int p1), .val (.int p2), .val (.int p3), .val (.int p4), .val (.int p5), .val (.int k6), .val (.ref x7), .val (.int nz), .val (.int ez), .val (.ref b10), .val (.ref b11), .val u12, .val u13, .val u14, .val (.ref a218), .unset, .unset] [(.ref x7)])) rfl (hb hby at_182)
      refine own_step (T' := T231) (g' := (mkF m 185 #[.val (.int p0), .val (.int p1), .val (.int p2), .val (.int p3), .val (.int p4), .val (.int p5), .val (.int k6), .val (.ref x7), .val (.int nz), .val (.int ez), .val (.ref b10), .val (.ref b11), .val u12, .val u13, .val u14, .val (.ref a218), .unset, .unset] [(.ref o7), (.ref x7)])) (fun _ kk => st231 _ kk) ?_
      refine own_step (T' := T231) (g' := (mkF m 192 #[.val (.int p0), .val (.int p1), .val (.int p2), .val (.int p3), .val (.int p4), .val (.int p5), .val (.int k6), .val (.ref x7), .val (.int nz), .val (.int ez), .val (.ref b10), .val (.ref b11), .val u12, .val u13, .val u14, .val (.ref a218), .unset, .unset] [])) (fun _ kk => acmp X231 hx rfl rfl rfl (pc0 := 185) (pc' := 192) rfl (hb hby at_185) rfl (same := false) (by simpa using n7) (by decide) rfl kk) ?_
      refine own_step (T' := T231) (g' := (mkF m 193 #[.val (.int p0), .val (.int p1), .val (.int p2), .val (.int p3), .val (.int p4), .val (.int p5), .val (.int k6), .val (.ref x7), .val (.int nz), .val (.int ez), .val (.ref b10), .val (.ref b11), .val u12, .val u13, .val u14, .val (.ref a218), .unset, .unset] [(.int (0 : Int32))])) (fun _ kk => XS.iconst X231.here hx rfl (hb hby at_192) kk) ?_
      refine own_step (T' := T231) (g' := (mkF m 195 #[.val (.int p0), .val (.int p1), .val (.int p2), .val (.int p3), .val (.int p4), .val (.int p5), .val (.int k6), .val (.ref x7), .val (.int nz), .val (.int ez), .val (.ref b10), .val (.ref b11), .val u12, .val u13, .val u14, .val (.ref a218), .val (.int (0 : Int32)), .unset] [])) (fun _ kk => XS.istore X231.here hx rfl (hb hby at_193) rfl (l' := #[.val (.int p0), .val (.int p1), .val (.int p2), .val (.int p3), .val (.int p4), .val (.int p5), .val (.int k6), .val (.ref x7), .val (.int nz), .val (.int ez), .val (.ref b10), .val (.ref b11), .val u12, .val u13, .val u14, .val (.ref a218), .val (.int (0 : Int32)), .unset]) rfl kk) ?_
      refine own_step (T' := T231) (g' := (mkF m 197 #[.val (.int p0), .val (.int p1), .val (.int p2), .val (.int p3), .val (.int p4), .val (.int p5), .val (.int k6), .val (.ref x7), .val (.int nz), .val (.int ez), .val (.ref b10), .val (.ref b11), .val u12, .val u13, .val u14, .val (.ref a218), .val (.int (0 : Int32)), .unset] [(.int (0 : Int32))])) (fun _ kk => XS.iload X231.here hx rfl (hb hby at_195) rfl kk) ?_
      refine own_step (T' := T231) (g' := (mkF m 209 #[.val (.int p0), .val (.int p1), .val (.int p2), .val (.int p3), .val (.int p4), .val (.int p5), .val (.int k6), .val (.ref x7), .val (.int nz), .val (.int ez), .val (.ref b10), .val (.ref b11), .val u12, .val u13, .val u14, .val (.ref a218), .val (.int (0 : Int32)), .unset] [])) (fun _ kk => XS.ifYes X231.here hx rfl (pc0 := 197) (pc' := 209) rfl (hb hby at_197) rfl ((if0 _ _).trans (teq rfl).1) (by decide) (by decide) kk) ?_
      refine own_step (T' := T231) (g' := (mkF m 210 #[.val (.int p0), .val (.int p1), .val (.int p2), .val (.int p3), .val (.int p4), .val (.int p5), .val (.int k6), .val (.ref x7), .val (.int nz), .val (.int ez), .val (.ref b10), .val (.ref b11), .val u12, .val u13, .val u14, .val (.ref a218), .val (.int (0 : Int32)), .unset] [(.int (0 : Int32))])) (fun _ kk => XS.iconst X231.here hx rfl (hb hby at_209) kk) ?_
      refine own_step (T' := T231) (g' := (mkF m 212 #[.val (.int p0), .val (.int p1), .val (.int p2), .val (.int p3), .val (.int p4), .val (.int p5), .val (.int k6), .val (.ref x7), .val (.int nz), .val (.int ez), .val (.ref b10), .val (.ref b11), .val u12, .val u13, .val u14, .val (.ref a218), .val (.int (0 : Int32)), .val (.int (0 : Int32))] [])) (fun _ kk => XS.istore X231.here hx rfl (hb hby at_210) rfl (l' := #[.val (.int p0), .val (.int p1), .val (.int p2), .val (.int p3), .val (.int p4), .val (.int p5), .val (.int k6), .val (.ref x7), .val (.int nz), .val (.int ez), .val (.ref b10), .val (.ref b11), .val u12, .val u13, .val u14, .val (.ref a218), .val (.int (0 : Int32)), .val (.int (0 : Int32))]) rfl kk) ?_
      refine own_step (T' := T231) (g' := (mkF m 214 #[.val (.int p0), .val (.int p1), .val (.int p2), .val (.int p3), .val (.int p4), .val (.int p5), .val (.int k6), .val (.ref x7), .val (.int nz), .val (.int ez), .val (.ref b10), .val (.ref b11), .val u12, .val u13, .val u14, .val (.ref a218), .val (.int (0 : Int32)), .val (.int (0 : Int32))] [(.ref a218)])) (fun _ kk => XS.aload X231.here hx rfl (hb hby at_212) rfl rfl kk) ?_
      obtain ⟨T233, L233, _, h233, X233, e233, ⟨rfl, Nq232, eh232⟩, st233⟩ := own_callV X231 hx hZ1 ho1 (w76 hw) (w77 hw) (w79 hw) (w78 hw) (w80 hw) (w40 hw) (by decide) F226.1 (g := (mkF m 214 #[.val (.int p0), .val (.int p1), .val (.int p2), .val (.int p3), .val (.int p4), .val (.int p5), .val (.int k6), .val (.ref x7), .val (.int nz), .val (.int ez), .val (.ref b10), .val (.ref b11), .val u12, .val u13, .val u14, .val (.ref a218), .val (.int (0 : Int32)), .val (.int (0 : Int32))] [(.ref a218)])) rfl (by rw [hml]; rfl) (argsL := []) (rest := []) (rm_or l Z a0 hw a218 x7 (0 : Int32) u12 _ F228 Fop Fid (E7.ext F228.2) (F7x.ext F228.2) rfl r12) e231 pd___Z rfl rfl (W := 0) (by show 2 * 0 + _ ≤ _; exact Nat.le_of_eq rfl) (hb hby at_214) (by decide) (by decide) (by decide) (by decide)
      have F234 := Fr.app F225 Nq232
      have F235 := e233.trans eh232
      refine own_step (T' := T233) (g' := (mkF m 217 #[.val (.int p0), .val (.int p1), .val (.int p2), .val (.int p3), .val (.int p4), .val (.int p5), .val (.int k6), .val (.ref x7), .val (.int nz), .val (.int ez), .val (.ref b10), .val (.ref b11), .val u12, .val u13, .val u14, .val (.ref a218), .val (.int (0 : Int32)), .val (.int (0 : Int32))] [(.int (if (0 : Int32) = (0 : Int32) then (0 : Int32) else if u12 = Value.null then (1 : Int32) else (0 : Int32)))])) (fun _ kk => st233 _ kk) ?_
      refine own_step (T' := T233) (g' := (mkF m 219 #[.val (.int p0), .val (.int p1), .val (.int p2), .val (.int p3), .val (.int p4), .val (.int p5), .val (.int k6), .val (.ref x7), .val (.int nz), .val (.int ez), .val (.ref b10), .val (.ref b11), .val u12, .val u13, .val u14, .val (.ref a218), .val (.int (0 : Int32)), .val (.int (0 : Int32))] [(.int (0 : Int32)), (.int (if (0 : Int32) = (0 : Int32) then (0 : Int32) else if u12 = Value.null then (1 : Int32) else (0 : Int32)))])) (fun _ kk => XS.iload X233.here hx rfl (hb hby at_217) rfl kk) ?_
      refine own_step (T' := T233) (g' := (mkF m 222 #[.val (.int p0), .val (.int p1), .val (.int p2), .val (.int p3), .val (.int p4), .val (.int p5), .val (.int k6), .val (.ref x7), .val (.int nz), .val (.int ez), .val (.ref b10), .val (.ref b11), .val u12, .val u13, .val u14, .val (.ref a218), .val (.int (0 : Int32)), .val (.int (0 : Int32))] [])) (fun _ kk => XS.icmpNo X233.here hx rfl (hb hby at_219) rfl (teq (by rw [if_pos rfl])).2 kk) ?_
      refine own_step (T' := T233) (g' := (mkF m 223 #[.val (.int p0), .val (.int p1), .val (.int p2), .val (.int p3), .val (.int p4), .val (.int p5), .val (.int k6), .val (.ref x7), .val (.int nz), .val (.int ez), .val (.ref b10), .val (.ref b11), .val u12, .val u13, .val u14, .val (.ref a218), .val (.int (0 : Int32)), .val (.int (0 : Int32))] [(.int (1 : Int32))])) (fun _ kk => XS.iconst X233.here hx rfl (hb hby at_222) kk) ?_
      refine own_step (T' := T233) (g' := (mkF m 227 #[.val (.int p0), .val (.int p1), .val (.int p2), .val (.int p3), .val (.int p4), .val (.int p5), .val (.int k6), .val (.ref x7), .val (.int nz), .val (.int ez), .val (.ref b10), .val (.ref b11), .val u12, .val u13, .val u14, .val (.ref a218), .val (.int (0 : Int32)), .val (.int (0 : Int32))] [(.int (1 : Int32))])) (fun _ kk => XS.goto X233.here hx rfl (pc0 := 223) (pc' := 227) rfl (hb hby at_223) (by decide) (by decide) kk) ?_
      exact own_retNW X233 hx hS1 F227 hlk (t := .boolean) hret (by simp) (hb hby at_227) F235 ⟨rfl, F234⟩ (by decide) (by decide)
    · obtain ⟨T236, X236, e236, st236⟩ := getS (host := "") X224 hx hZ1 ho1 (w70 hw) Via.refl e224 (S5.ext F228.2) (g := (mkF m 166 #[.val (.int p0), .val (.int p1), .val (.int p2), .val (.int p3), .val (.int p4), .val (.int p5), .val (.int k6), .val (.ref x7), .val (.int nz), .val (.int ez), .val (.ref b10), .val (.ref b11), .val u12, .val u13, .val u14, .val (.ref a218), .unset, .unset] [(.ref x7)])) rfl (hb hby at_166)
      refine own_step (T' := T236) (g' := (mkF m 169 #[.val (.int p0), .val (.int p1), .val (.int p2), .val (.int p3), .val (.int p4), .val (.int p5), .val (.int k6), .val (.ref x7), .val (.int nz), .val (.int ez), .val (.ref b10), .val (.ref b11), .val u12, .val u13, .val u14, .val (.ref a218), .unset, .unset] [(.ref o5), (.ref x7)])) (fun _ kk => st236 _ kk) ?_
      by_cases q5 : x7 = o5
      · refine own_step (T' := T236) (g' := (mkF m 188 #[.val (.int p0), .val (.int p1), .val (.int p2), .val (.int p3), .val (.int p4), .val (.int p5), .val (.int k6), .val (.ref x7), .val (.int nz), .val (.int ez), .val (.ref b10), .val (.ref b11), .val u12, .val u13, .val u14, .val (.ref a218), .unset, .unset] [])) (fun _ kk => acmp X236 hx rfl rfl rfl (pc0 := 169) (pc' := 188) rfl (hb hby at_169) rfl (same := true) (by simpa using q5) (by decide) rfl kk) ?_
        refine own_step (T' := T236) (g' := (mkF m 189 #[.val (.int p0), .val (.int p1), .val (.int p2), .val (.int p3), .val (.int p4), .val (.int p5), .val (.int k6), .val (.ref x7), .val (.int nz), .val (.int ez), .val (.ref b10), .val (.ref b11), .val u12, .val u13, .val u14, .val (.ref a218), .unset, .unset] [(.int (1 : Int32))])) (fun _ kk => XS.iconst X236.here hx rfl (hb hby at_188) kk) ?_
        refine own_step (T' := T236) (g' := (mkF m 193 #[.val (.int p0), .val (.int p1), .val (.int p2), .val (.int p3), .val (.int p4), .val (.int p5), .val (.int k6), .val (.ref x7), .val (.int nz), .val (.int ez), .val (.ref b10), .val (.ref b11), .val u12, .val u13, .val u14, .val (.ref a218), .unset, .unset] [(.int (1 : Int32))])) (fun _ kk => XS.goto X236.here hx rfl (pc0 := 189) (pc' := 193) rfl (hb hby at_189) (by decide) (by decide) kk) ?_
        refine own_step (T' := T236) (g' := (mkF m 195 #[.val (.int p0), .val (.int p1), .val (.int p2), .val (.int p3), .val (.int p4), .val (.int p5), .val (.int k6), .val (.ref x7), .val (.int nz), .val (.int ez), .val (.ref b10), .val (.ref b11), .val u12, .val u13, .val u14, .val (.ref a218), .val (.int (1 : Int32)), .unset] [])) (fun _ kk => XS.istore X236.here hx rfl (hb hby at_193) rfl (l' := #[.val (.int p0), .val (.int p1), .val (.int p2), .val (.int p3), .val (.int p4), .val (.int p5), .val (.int k6), .val (.ref x7), .val (.int nz), .val (.int ez), .val (.ref b10), .val (.ref b11), .val u12, .val u13, .val u14, .val (.ref a218), .val (.int (1 : Int32)), .unset]) rfl kk) ?_
        refine own_step (T' := T236) (g' := (mkF m 197 #[.val (.int p0), .val (.int p1), .val (.int p2), .val (.int p3), .val (.int p4), .val (.int p5), .val (.int k6), .val (.ref x7), .val (.int nz), .val (.int ez), .val (.ref b10), .val (.ref b11), .val u12, .val u13, .val u14, .val (.ref a218), .val (.int (1 : Int32)), .unset] [(.int (1 : Int32))])) (fun _ kk => XS.iload X236.here hx rfl (hb hby at_195) rfl kk) ?_
        refine own_step (T' := T236) (g' := (mkF m 200 #[.val (.int p0), .val (.int p1), .val (.int p2), .val (.int p3), .val (.int p4), .val (.int p5), .val (.int k6), .val (.ref x7), .val (.int nz), .val (.int ez), .val (.ref b10), .val (.ref b11), .val u12, .val u13, .val u14, .val (.ref a218), .val (.int (1 : Int32)), .unset] [])) (fun _ kk => XS.ifNo X236.here hx rfl (hb hby at_197) rfl ((if0 _ _).trans (feq (by decide)).1) kk) ?_
        refine own_step (T' := T236) (g' := (mkF m 202 #[.val (.int p0), .val (.int p1), .val (.int p2), .val (.int p3), .val (.int p4), .val (.int p5), .val (.int k6), .val (.ref x7), .val (.int nz), .val (.int ez), .val (.ref b10), .val (.ref b11), .val u12, .val u13, .val u14, .val (.ref a218), .val (.int (1 : Int32)), .unset] [(.int nz)])) (fun _ kk => XS.iload X236.here hx rfl (hb hby at_200) rfl kk) ?_
        rcases hid with ⟨hn, rfl⟩ | ⟨hn, rfl⟩
        · refine own_step (T' := T236) (g' := (mkF m 205 #[.val (.int p0), .val (.int p1), .val (.int p2), .val (.int p3), .val (.int p4), .val (.int p5), .val (.int k6), .val (.ref x7), .val (.int (1 : Int32)), .val (.int ez), .val (.ref b10), .val (.ref b11), .val u12, .val u13, .val u14, .val (.ref a218), .val (.int (1 : Int32)), .unset] [])) (fun _ kk => XS.ifNo X236.here hx rfl (hb hby at_202) rfl ((if0 _ _).trans (feq (by decide)).1) kk) ?_
          refine own_step (T' := T236) (g' := (mkF m 206 #[.val (.int p0), .val (.int p1), .val (.int p2), .val (.int p3), .val (.int p4), .val (.int p5), .val (.int k6), .val (.ref x7), .val (.int (1 : Int32)), .val (.int ez), .val (.ref b10), .val (.ref b11), .val u12, .val u13, .val u14, .val (.ref a218), .val (.int (1 : Int32)), .unset] [(.int (1 : Int32))])) (fun _ kk => XS.iconst X236.here hx rfl (hb hby at_205) kk) ?_
          refine own_step (T' := T236) (g' := (mkF m 210 #[.val (.int p0), .val (.int p1), .val (.int p2), .val (.int p3), .val (.int p4), .val (.int p5), .val (.int k6), .val (.ref x7), .val (.int (1 : Int32)), .val (.int ez), .val (.ref b10), .val (.ref b11), .val u12, .val u13, .val u14, .val (.ref a218), .val (.int (1 : Int32)), .unset] [(.int (1 : Int32))])) (fun _ kk => XS.goto X236.here hx rfl (pc0 := 206) (pc' := 210) rfl (hb hby at_206) (by decide) (by decide) kk) ?_
          refine own_step (T' := T236) (g' := (mkF m 212 #[.val (.int p0), .val (.int p1), .val (.int p2), .val (.int p3), .val (.int p4), .val (.int p5), .val (.int k6), .val (.ref x7), .val (.int (1 : Int32)), .val (.int ez), .val (.ref b10), .val (.ref b11), .val u12, .val u13, .val u14, .val (.ref a218), .val (.int (1 : Int32)), .val (.int (1 : Int32))] [])) (fun _ kk => XS.istore X236.here hx rfl (hb hby at_210) rfl (l' := #[.val (.int p0), .val (.int p1), .val (.int p2), .val (.int p3), .val (.int p4), .val (.int p5), .val (.int k6), .val (.ref x7), .val (.int (1 : Int32)), .val (.int ez), .val (.ref b10), .val (.ref b11), .val u12, .val u13, .val u14, .val (.ref a218), .val (.int (1 : Int32)), .val (.int (1 : Int32))]) rfl kk) ?_
          refine own_step (T' := T236) (g' := (mkF m 214 #[.val (.int p0), .val (.int p1), .val (.int p2), .val (.int p3), .val (.int p4), .val (.int p5), .val (.int k6), .val (.ref x7), .val (.int (1 : Int32)), .val (.int ez), .val (.ref b10), .val (.ref b11), .val u12, .val u13, .val u14, .val (.ref a218), .val (.int (1 : Int32)), .val (.int (1 : Int32))] [(.ref a218)])) (fun _ kk => XS.aload X236.here hx rfl (hb hby at_212) rfl rfl kk) ?_
          obtain ⟨T238, L238, _, h238, X238, e238, ⟨rfl, Nq237, eh237⟩, st238⟩ := own_callV X236 hx hZ1 ho1 (w76 hw) (w77 hw) (w79 hw) (w78 hw) (w80 hw) (w40 hw) (by decide) F226.1 (g := (mkF m 214 #[.val (.int p0), .val (.int p1), .val (.int p2), .val (.int p3), .val (.int p4), .val (.int p5), .val (.int k6), .val (.ref x7), .val (.int (1 : Int32)), .val (.int ez), .val (.ref b10), .val (.ref b11), .val u12, .val u13, .val u14, .val (.ref a218), .val (.int (1 : Int32)), .val (.int (1 : Int32))] [(.ref a218)])) rfl (by rw [hml]; rfl) (argsL := []) (rest := []) (rm_or l Z a0 hw a218 x7 (1 : Int32) u12 _ F228 Fop Fid (E7.ext F228.2) (F7x.ext F228.2) rfl r12) e236 pd___Z rfl rfl (W := 0) (by show 2 * 0 + _ ≤ _; exact Nat.le_of_eq rfl) (hb hby at_214) (by decide) (by decide) (by decide) (by decide)
          have F239 := Fr.app F225 Nq237
          have F240 := e238.trans eh237
          refine own_step (T' := T238) (g' := (mkF m 217 #[.val (.int p0), .val (.int p1), .val (.int p2), .val (.int p3), .val (.int p4), .val (.int p5), .val (.int k6), .val (.ref x7), .val (.int (1 : Int32)), .val (.int ez), .val (.ref b10), .val (.ref b11), .val u12, .val u13, .val u14, .val (.ref a218), .val (.int (1 : Int32)), .val (.int (1 : Int32))] [(.int (if (1 : Int32) = (0 : Int32) then (0 : Int32) else if u12 = Value.null then (1 : Int32) else (0 : Int32)))])) (fun _ kk => st238 _ kk) ?_
          refine own_step (T' := T238) (g' := (mkF m 219 #[.val (.int p0), .val (.int p1), .val (.int p2), .val (.int p3), .val (.int p4), .val (.int p5), .val (.int k6), .val (.ref x7), .val (.int (1 : Int32)), .val (.int ez), .val (.ref b10), .val (.ref b11), .val u12, .val u13, .val u14, .val (.ref a218), .val (.int (1 : Int32)), .val (.int (1 : Int32))] [(.int (1 : Int32)), (.int (if (1 : Int32) = (0 : Int32) then (0 : Int32) else if u12 = Value.null then (1 : Int32) else (0 : Int32)))])) (fun _ kk => XS.iload X238.here hx rfl (hb hby at_217) rfl kk) ?_
          refine own_step (T' := T238) (g' := (mkF m 222 #[.val (.int p0), .val (.int p1), .val (.int p2), .val (.int p3), .val (.int p4), .val (.int p5), .val (.int k6), .val (.ref x7), .val (.int (1 : Int32)), .val (.int ez), .val (.ref b10), .val (.ref b11), .val u12, .val u13, .val u14, .val (.ref a218), .val (.int (1 : Int32)), .val (.int (1 : Int32))] [])) (fun _ kk => XS.icmpNo X238.here hx rfl (hb hby at_219) rfl (teq (by rw [if_neg (by decide), if_pos hn])).2 kk) ?_
          refine own_step (T' := T238) (g' := (mkF m 223 #[.val (.int p0), .val (.int p1), .val (.int p2), .val (.int p3), .val (.int p4), .val (.int p5), .val (.int k6), .val (.ref x7), .val (.int (1 : Int32)), .val (.int ez), .val (.ref b10), .val (.ref b11), .val u12, .val u13, .val u14, .val (.ref a218), .val (.int (1 : Int32)), .val (.int (1 : Int32))] [(.int (1 : Int32))])) (fun _ kk => XS.iconst X238.here hx rfl (hb hby at_222) kk) ?_
          refine own_step (T' := T238) (g' := (mkF m 227 #[.val (.int p0), .val (.int p1), .val (.int p2), .val (.int p3), .val (.int p4), .val (.int p5), .val (.int k6), .val (.ref x7), .val (.int (1 : Int32)), .val (.int ez), .val (.ref b10), .val (.ref b11), .val u12, .val u13, .val u14, .val (.ref a218), .val (.int (1 : Int32)), .val (.int (1 : Int32))] [(.int (1 : Int32))])) (fun _ kk => XS.goto X238.here hx rfl (pc0 := 223) (pc' := 227) rfl (hb hby at_223) (by decide) (by decide) kk) ?_
          exact own_retNW X238 hx hS1 F227 hlk (t := .boolean) hret (by simp) (hb hby at_227) F240 ⟨rfl, F239⟩ (by decide) (by decide)
        · refine own_step (T' := T236) (g' := (mkF m 209 #[.val (.int p0), .val (.int p1), .val (.int p2), .val (.int p3), .val (.int p4), .val (.int p5), .val (.int k6), .val (.ref x7), .val (.int (0 : Int32)), .val (.int ez), .val (.ref b10), .val (.ref b11), .val u12, .val u13, .val u14, .val (.ref a218), .val (.int (1 : Int32)), .unset] [])) (fun _ kk => XS.ifYes X236.here hx rfl (pc0 := 202) (pc' := 209) rfl (hb hby at_202) rfl ((if0 _ _).trans (teq rfl).1) (by decide) (by decide) kk) ?_
          refine own_step (T' := T236) (g' := (mkF m 210 #[.val (.int p0), .val (.int p1), .val (.int p2), .val (.int p3), .val (.int p4), .val (.int p5), .val (.int k6), .val (.ref x7), .val (.int (0 : Int32)), .val (.int ez), .val (.ref b10), .val (.ref b11), .val u12, .val u13, .val u14, .val (.ref a218), .val (.int (1 : Int32)), .unset] [(.int (0 : Int32))])) (fun _ kk => XS.iconst X236.here hx rfl (hb hby at_209) kk) ?_
          refine own_step (T' := T236) (g' := (mkF m 212 #[.val (.int p0), .val (.int p1), .val (.int p2), .val (.int p3), .val (.int p4), .val (.int p5), .val (.int k6), .val (.ref x7), .val (.int (0 : Int32)), .val (.int ez), .val (.ref b10), .val (.ref b11), .val u12, .val u13, .val u14, .val (.ref a218), .val (.int (1 : Int32)), .val (.int (0 : Int32))] [])) (fun _ kk => XS.istore X236.here hx rfl (hb hby at_210) rfl (l' := #[.val (.int p0), .val (.int p1), .val (.int p2), .val (.int p3), .val (.int p4), .val (.int p5), .val (.int k6), .val (.ref x7), .val (.int (0 : Int32)), .val (.int ez), .val (.ref b10), .val (.ref b11), .val u12, .val u13, .val u14, .val (.ref a218), .val (.int (1 : Int32)), .val (.int (0 : Int32))]) rfl kk) ?_
          refine own_step (T' := T236) (g' := (mkF m 214 #[.val (.int p0), .val (.int p1), .val (.int p2), .val (.int p3), .val (.int p4), .val (.int p5), .val (.int k6), .val (.ref x7), .val (.int (0 : Int32)), .val (.int ez), .val (.ref b10), .val (.ref b11), .val u12, .val u13, .val u14, .val (.ref a218), .val (.int (1 : Int32)), .val (.int (0 : Int32))] [(.ref a218)])) (fun _ kk => XS.aload X236.here hx rfl (hb hby at_212) rfl rfl kk) ?_
          obtain ⟨T242, L242, _, h242, X242, e242, ⟨rfl, Nq241, eh241⟩, st242⟩ := own_callV X236 hx hZ1 ho1 (w76 hw) (w77 hw) (w79 hw) (w78 hw) (w80 hw) (w40 hw) (by decide) F226.1 (g := (mkF m 214 #[.val (.int p0), .val (.int p1), .val (.int p2), .val (.int p3), .val (.int p4), .val (.int p5), .val (.int k6), .val (.ref x7), .val (.int (0 : Int32)), .val (.int ez), .val (.ref b10), .val (.ref b11), .val u12, .val u13, .val u14, .val (.ref a218), .val (.int (1 : Int32)), .val (.int (0 : Int32))] [(.ref a218)])) rfl (by rw [hml]; rfl) (argsL := []) (rest := []) (rm_or l Z a0 hw a218 x7 (1 : Int32) u12 _ F228 Fop Fid (E7.ext F228.2) (F7x.ext F228.2) rfl r12) e236 pd___Z rfl rfl (W := 0) (by show 2 * 0 + _ ≤ _; exact Nat.le_of_eq rfl) (hb hby at_214) (by decide) (by decide) (by decide) (by decide)
          have F243 := Fr.app F225 Nq241
          have F244 := e242.trans eh241
          refine own_step (T' := T242) (g' := (mkF m 217 #[.val (.int p0), .val (.int p1), .val (.int p2), .val (.int p3), .val (.int p4), .val (.int p5), .val (.int k6), .val (.ref x7), .val (.int (0 : Int32)), .val (.int ez), .val (.ref b10), .val (.ref b11), .val u12, .val u13, .val u14, .val (.ref a218), .val (.int (1 : Int32)), .val (.int (0 : Int32))] [(.int (if (1 : Int32) = (0 : Int32) then (0 : Int32) else if u12 = Value.null then (1 : Int32) else (0 : Int32)))])) (fun _ kk => st242 _ kk) ?_
          refine own_step (T' := T242) (g' := (mkF m 219 #[.val (.int p0), .val (.int p1), .val (.int p2), .val (.int p3), .val (.int p4), .val (.int p5), .val (.int k6), .val (.ref x7), .val (.int (0 : Int32)), .val (.int ez), .val (.ref b10), .val (.ref b11), .val u12, .val u13, .val u14, .val (.ref a218), .val (.int (1 : Int32)), .val (.int (0 : Int32))] [(.int (0 : Int32)), (.int (if (1 : Int32) = (0 : Int32) then (0 : Int32) else if u12 = Value.null then (1 : Int32) else (0 : Int32)))])) (fun _ kk => XS.iload X242.here hx rfl (hb hby at_217) rfl kk) ?_
          refine own_step (T' := T242) (g' := (mkF m 222 #[.val (.int p0), .val (.int p1), .val (.int p2), .val (.int p3), .val (.int p4), .val (.int p5), .val (.int k6), .val (.ref x7), .val (.int (0 : Int32)), .val (.int ez), .val (.ref b10), .val (.ref b11), .val u12, .val u13, .val u14, .val (.ref a218), .val (.int (1 : Int32)), .val (.int (0 : Int32))] [])) (fun _ kk => XS.icmpNo X242.here hx rfl (hb hby at_219) rfl (teq (by rw [if_neg (by decide), if_neg hn])).2 kk) ?_
          refine own_step (T' := T242) (g' := (mkF m 223 #[.val (.int p0), .val (.int p1), .val (.int p2), .val (.int p3), .val (.int p4), .val (.int p5), .val (.int k6), .val (.ref x7), .val (.int (0 : Int32)), .val (.int ez), .val (.ref b10), .val (.ref b11), .val u12, .val u13, .val u14, .val (.ref a218), .val (.int (1 : Int32)), .val (.int (0 : Int32))] [(.int (1 : Int32))])) (fun _ kk => XS.iconst X242.here hx rfl (hb hby at_222) kk) ?_
          refine own_step (T' := T242) (g' := (mkF m 227 #[.val (.int p0), .val (.int p1), .val (.int p2), .val (.int p3), .val (.int p4), .val (.int p5), .val (.int k6), .val (.ref x7), .val (.int (0 : Int32)), .val (.int ez), .val (.ref b10), .val (.ref b11), .val u12, .val u13, .val u14, .val (.ref a218), .val (.int (1 : Int32)), .val (.int (0 : Int32))] [(.int (1 : Int32))])) (fun _ kk => XS.goto X242.here hx rfl (pc0 := 223) (pc' := 227) rfl (hb hby at_223) (by decide) (by decide) kk) ?_
          exact own_retNW X242 hx hS1 F227 hlk (t := .boolean) hret (by simp) (hb hby at_227) F244 ⟨rfl, F243⟩ (by decide) (by decide)
      · refine own_step (T' := T236) (g' := (mkF m 172 #[.val (.int p0), .val (.int p1), .val (.int p2), .val (.int p3), .val (.int p4), .val (.int p5), .val (.int k6), .val (.ref x7), .val (.int nz), .val (.int ez), .val (.ref b10), .val (.ref b11), .val u12, .val u13, .val u14, .val (.ref a218), .unset, .unset] [])) (fun _ kk => acmp X236 hx rfl rfl rfl (pc0 := 169) (pc' := 172) rfl (hb hby at_169) rfl (same := false) (by simpa using q5) (by decide) rfl kk) ?_
        refine own_step (T' := T236) (g' := (mkF m 174 #[.val (.int p0), .val (.int p1), .val (.int p2), .val (.int p3), .val (.int p4), .val (.int p5), .val (.int k6), .val (.ref x7), .val (.int nz), .val (.int ez), .val (.ref b10), .val (.ref b11), .val u12, .val u13, .val u14, .val (.ref a218), .unset, .unset] [(.ref x7)])) (fun _ kk => XS.aload X236.here hx rfl (hb hby at_172) rfl rfl kk) ?_
        obtain ⟨T245, X245, e245, st245⟩ := getS (host := "") X236 hx hZ1 ho1 (w72 hw) Via.refl e236 (S6.ext F228.2) (g := (mkF m 174 #[.val (.int p0), .val (.int p1), .val (.int p2), .val (.int p3), .val (.int p4), .val (.int p5), .val (.int k6), .val (.ref x7), .val (.int nz), .val (.int ez), .val (.ref b10), .val (.ref b11), .val u12, .val u13, .val u14, .val (.ref a218), .unset, .unset] [(.ref x7)])) rfl (hb hby at_174)
        refine own_step (T' := T245) (g' := (mkF m 177 #[.val (.int p0), .val (.int p1), .val (.int p2), .val (.int p3), .val (.int p4), .val (.int p5), .val (.int k6), .val (.ref x7), .val (.int nz), .val (.int ez), .val (.ref b10), .val (.ref b11), .val u12, .val u13, .val u14, .val (.ref a218), .unset, .unset] [(.ref o6), (.ref x7)])) (fun _ kk => st245 _ kk) ?_
        by_cases q6 : x7 = o6
        · refine own_step (T' := T245) (g' := (mkF m 188 #[.val (.int p0), .val (.int p1), .val (.int p2), .val (.int p3), .val (.int p4), .val (.int p5), .val (.int k6), .val (.ref x7), .val (.int nz), .val (.int ez), .val (.ref b10), .val (.ref b11), .val u12, .val u13, .val u14, .val (.ref a218), .unset, .unset] [])) (fun _ kk => acmp X245 hx rfl rfl rfl (pc0 := 177) (pc' := 188) rfl (hb hby at_177) rfl (same := true) (by simpa using q6) (by decide) rfl kk) ?_
          refine own_step (T' := T245) (g' := (mkF m 189 #[.val (.int p0), .val (.int p1), .val (.int p2), .val (.int p3), .val (.int p4), .val (.int p5), .val (.int k6), .val (.ref x7), .val (.int nz), .val (.int ez), .val (.ref b10), .val (.ref b11), .val u12, .val u13, .val u14, .val (.ref a218), .unset, .unset] [(.int (1 : Int32))])) (fun _ kk => XS.iconst X245.here hx rfl (hb hby at_188) kk) ?_
          refine own_step (T' := T245) (g' := (mkF m 193 #[.val (.int p0), .val (.int p1), .val (.int p2), .val (.int p3), .val (.int p4), .val (.int p5), .val (.int k6), .val (.ref x7), .val (.int nz), .val (.int ez), .val (.ref b10), .val (.ref b11), .val u12, .val u13, .val u14, .val (.ref a218), .unset, .unset] [(.int (1 : Int32))])) (fun _ kk => XS.goto X245.here hx rfl (pc0 := 189) (pc' := 193) rfl (hb hby at_189) (by decide) (by decide) kk) ?_
          refine own_step (T' := T245) (g' := (mkF m 195 #[.val (.int p0), .val (.int p1), .val (.int p2), .val (.int p3), .val (.int p4), .val (.int p5), .val (.int k6), .val (.ref x7), .val (.int nz), .val (.int ez), .val (.ref b10), .val (.ref b11), .val u12, .val u13, .val u14, .val (.ref a218), .val (.int (1 : Int32)), .unset] [])) (fun _ kk => XS.istore X245.here hx rfl (hb hby at_193) rfl (l' := #[.val (.int p0), .val (.int p1), .val (.int p2), .val (.int p3), .val (.int p4), .val (.int p5), .val (.int k6), .val (.ref x7), .val (.int nz), .val (.int ez), .val (.ref b10), .val (.ref b11), .val u12, .val u13, .val u14, .val (.ref a218), .val (.int (1 : Int32)), .unset]) rfl kk) ?_
          refine own_step (T' := T245) (g' := (mkF m 197 #[.val (.int p0), .val (.int p1), .val (.int p2), .val (.int p3), .val (.int p4), .val (.int p5), .val (.int k6), .val (.ref x7), .val (.int nz), .val (.int ez), .val (.ref b10), .val (.ref b11), .val u12, .val u13, .val u14, .val (.ref a218), .val (.int (1 : Int32)), .unset] [(.int (1 : Int32))])) (fun _ kk => XS.iload X245.here hx rfl (hb hby at_195) rfl kk) ?_
          refine own_step (T' := T245) (g' := (mkF m 200 #[.val (.int p0), .val (.int p1), .val (.int p2), .val (.int p3), .val (.int p4), .val (.int p5), .val (.int k6), .val (.ref x7), .val (.int nz), .val (.int ez), .val (.ref b10), .val (.ref b11), .val u12, .val u13, .val u14, .val (.ref a218), .val (.int (1 : Int32)), .unset] [])) (fun _ kk => XS.ifNo X245.here hx rfl (hb hby at_197) rfl ((if0 _ _).trans (feq (by decide)).1) kk) ?_
          refine own_step (T' := T245) (g' := (mkF m 202 #[.val (.int p0), .val (.int p1), .val (.int p2), .val (.int p3), .val (.int p4), .val (.int p5), .val (.int k6), .val (.ref x7), .val (.int nz), .val (.int ez), .val (.ref b10), .val (.ref b11), .val u12, .val u13, .val u14, .val (.ref a218), .val (.int (1 : Int32)), .unset] [(.int nz)])) (fun _ kk => XS.iload X245.here hx rfl (hb hby at_200) rfl kk) ?_
          rcases hid with ⟨hn, rfl⟩ | ⟨hn, rfl⟩
          · refine own_step (T' := T245) (g' := (mkF m 205 #[.val (.int p0), .val (.int p1), .val (.int p2), .val (.int p3), .val (.int p4), .val (.int p5), .val (.int k6), .val (.ref x7), .val (.int (1 : Int32)), .val (.int ez), .val (.ref b10), .val (.ref b11), .val u12, .val u13, .val u14, .val (.ref a218), .val (.int (1 : Int32)), .unset] [])) (fun _ kk => XS.ifNo X245.here hx rfl (hb hby at_202) rfl ((if0 _ _).trans (feq (by decide)).1) kk) ?_
            refine own_step (T' := T245) (g' := (mkF m 206 #[.val (.int p0), .val (.int p1), .val (.int p2), .val (.int p3), .val (.int p4), .val (.int p5), .val (.int k6), .val (.ref x7), .val (.int (1 : Int32)), .val (.int ez), .val (.ref b10), .val (.ref b11), .val u12, .val u13, .val u14, .val (.ref a218), .val (.int (1 : Int32)), .unset] [(.int (1 : Int32))])) (fun _ kk => XS.iconst X245.here hx rfl (hb hby at_205) kk) ?_
            refine own_step (T' := T245) (g' := (mkF m 210 #[.val (.int p0), .val (.int p1), .val (.int p2), .val (.int p3), .val (.int p4), .val (.int p5), .val (.int k6), .val (.ref x7), .val (.int (1 : Int32)), .val (.int ez), .val (.ref b10), .val (.ref b11), .val u12, .val u13, .val u14, .val (.ref a218), .val (.int (1 : Int32)), .unset] [(.int (1 : Int32))])) (fun _ kk => XS.goto X245.here hx rfl (pc0 := 206) (pc' := 210) rfl (hb hby at_206) (by decide) (by decide) kk) ?_
            refine own_step (T' := T245) (g' := (mkF m 212 #[.val (.int p0), .val (.int p1), .val (.int p2), .val (.int p3), .val (.int p4), .val (.int p5), .val (.int k6), .val (.ref x7), .val (.int (1 : Int32)), .val (.int ez), .val (.ref b10), .val (.ref b11), .val u12, .val u13, .val u14, .val (.ref a218), .val (.int (1 : Int32)), .val (.int (1 : Int32))] [])) (fun _ kk => XS.istore X245.here hx rfl (hb hby at_210) rfl (l' := #[.val (.int p0), .val (.int p1), .val (.int p2), .val (.int p3), .val (.int p4), .val (.int p5), .val (.int k6), .val (.ref x7), .val (.int (1 : Int32)), .val (.int ez), .val (.ref b10), .val (.ref b11), .val u12, .val u13, .val u14, .val (.ref a218), .val (.int (1 : Int32)), .val (.int (1 : Int32))]) rfl kk) ?_
            refine own_step (T' := T245) (g' := (mkF m 214 #[.val (.int p0), .val (.int p1), .val (.int p2), .val (.int p3), .val (.int p4), .val (.int p5), .val (.int k6), .val (.ref x7), .val (.int (1 : Int32)), .val (.int ez), .val (.ref b10), .val (.ref b11), .val u12, .val u13, .val u14, .val (.ref a218), .val (.int (1 : Int32)), .val (.int (1 : Int32))] [(.ref a218)])) (fun _ kk => XS.aload X245.here hx rfl (hb hby at_212) rfl rfl kk) ?_
            obtain ⟨T247, L247, _, h247, X247, e247, ⟨rfl, Nq246, eh246⟩, st247⟩ := own_callV X245 hx hZ1 ho1 (w76 hw) (w77 hw) (w79 hw) (w78 hw) (w80 hw) (w40 hw) (by decide) F226.1 (g := (mkF m 214 #[.val (.int p0), .val (.int p1), .val (.int p2), .val (.int p3), .val (.int p4), .val (.int p5), .val (.int k6), .val (.ref x7), .val (.int (1 : Int32)), .val (.int ez), .val (.ref b10), .val (.ref b11), .val u12, .val u13, .val u14, .val (.ref a218), .val (.int (1 : Int32)), .val (.int (1 : Int32))] [(.ref a218)])) rfl (by rw [hml]; rfl) (argsL := []) (rest := []) (rm_or l Z a0 hw a218 x7 (1 : Int32) u12 _ F228 Fop Fid (E7.ext F228.2) (F7x.ext F228.2) rfl r12) e245 pd___Z rfl rfl (W := 0) (by show 2 * 0 + _ ≤ _; exact Nat.le_of_eq rfl) (hb hby at_214) (by decide) (by decide) (by decide) (by decide)
            have F248 := Fr.app F225 Nq246
            have F249 := e247.trans eh246
            refine own_step (T' := T247) (g' := (mkF m 217 #[.val (.int p0), .val (.int p1), .val (.int p2), .val (.int p3), .val (.int p4), .val (.int p5), .val (.int k6), .val (.ref x7), .val (.int (1 : Int32)), .val (.int ez), .val (.ref b10), .val (.ref b11), .val u12, .val u13, .val u14, .val (.ref a218), .val (.int (1 : Int32)), .val (.int (1 : Int32))] [(.int (if (1 : Int32) = (0 : Int32) then (0 : Int32) else if u12 = Value.null then (1 : Int32) else (0 : Int32)))])) (fun _ kk => st247 _ kk) ?_
            refine own_step (T' := T247) (g' := (mkF m 219 #[.val (.int p0), .val (.int p1), .val (.int p2), .val (.int p3), .val (.int p4), .val (.int p5), .val (.int k6), .val (.ref x7), .val (.int (1 : Int32)), .val (.int ez), .val (.ref b10), .val (.ref b11), .val u12, .val u13, .val u14, .val (.ref a218), .val (.int (1 : Int32)), .val (.int (1 : Int32))] [(.int (1 : Int32)), (.int (if (1 : Int32) = (0 : Int32) then (0 : Int32) else if u12 = Value.null then (1 : Int32) else (0 : Int32)))])) (fun _ kk => XS.iload X247.here hx rfl (hb hby at_217) rfl kk) ?_
            refine own_step (T' := T247) (g' := (mkF m 222 #[.val (.int p0), .val (.int p1), .val (.int p2), .val (.int p3), .val (.int p4), .val (.int p5), .val (.int k6), .val (.ref x7), .val (.int (1 : Int32)), .val (.int ez), .val (.ref b10), .val (.ref b11), .val u12, .val u13, .val u14, .val (.ref a218), .val (.int (1 : Int32)), .val (.int (1 : Int32))] [])) (fun _ kk => XS.icmpNo X247.here hx rfl (hb hby at_219) rfl (teq (by rw [if_neg (by decide), if_pos hn])).2 kk) ?_
            refine own_step (T' := T247) (g' := (mkF m 223 #[.val (.int p0), .val (.int p1), .val (.int p2), .val (.int p3), .val (.int p4), .val (.int p5), .val (.int k6), .val (.ref x7), .val (.int (1 : Int32)), .val (.int ez), .val (.ref b10), .val (.ref b11), .val u12, .val u13, .val u14, .val (.ref a218), .val (.int (1 : Int32)), .val (.int (1 : Int32))] [(.int (1 : Int32))])) (fun _ kk => XS.iconst X247.here hx rfl (hb hby at_222) kk) ?_
            refine own_step (T' := T247) (g' := (mkF m 227 #[.val (.int p0), .val (.int p1), .val (.int p2), .val (.int p3), .val (.int p4), .val (.int p5), .val (.int k6), .val (.ref x7), .val (.int (1 : Int32)), .val (.int ez), .val (.ref b10), .val (.ref b11), .val u12, .val u13, .val u14, .val (.ref a218), .val (.int (1 : Int32)), .val (.int (1 : Int32))] [(.int (1 : Int32))])) (fun _ kk => XS.goto X247.here hx rfl (pc0 := 223) (pc' := 227) rfl (hb hby at_223) (by decide) (by decide) kk) ?_
            exact own_retNW X247 hx hS1 F227 hlk (t := .boolean) hret (by simp) (hb hby at_227) F249 ⟨rfl, F248⟩ (by decide) (by decide)
          · refine own_step (T' := T245) (g' := (mkF m 209 #[.val (.int p0), .val (.int p1), .val (.int p2), .val (.int p3), .val (.int p4), .val (.int p5), .val (.int k6), .val (.ref x7), .val (.int (0 : Int32)), .val (.int ez), .val (.ref b10), .val (.ref b11), .val u12, .val u13, .val u14, .val (.ref a218), .val (.int (1 : Int32)), .unset] [])) (fun _ kk => XS.ifYes X245.here hx rfl (pc0 := 202) (pc' := 209) rfl (hb hby at_202) rfl ((if0 _ _).trans (teq rfl).1) (by decide) (by decide) kk) ?_
            refine own_step (T' := T245) (g' := (mkF m 210 #[.val (.int p0), .val (.int p1), .val (.int p2), .val (.int p3), .val (.int p4), .val (.int p5), .val (.int k6), .val (.ref x7), .val (.int (0 : Int32)), .val (.int ez), .val (.ref b10), .val (.ref b11), .val u12, .val u13, .val u14, .val (.ref a218), .val (.int (1 : Int32)), .unset] [(.int (0 : Int32))])) (fun _ kk => XS.iconst X245.here hx rfl (hb hby at_209) kk) ?_
            refine own_step (T' := T245) (g' := (mkF m 212 #[.val (.int p0), .val (.int p1), .val (.int p2), .val (.int p3), .val (.int p4), .val (.int p5), .val (.int k6), .val (.ref x7), .val (.int (0 : Int32)), .val (.int ez), .val (.ref b10), .val (.ref b11), .val u12, .val u13, .val u14, .val (.ref a218), .val (.int (1 : Int32)), .val (.int (0 : Int32))] [])) (fun _ kk => XS.istore X245.here hx rfl (hb hby at_210) rfl (l' := #[.val (.int p0), .val (.int p1), .val (.int p2), .val (.int p3), .val (.int p4), .val (.int p5), .val (.int k6), .val (.ref x7), .val (.int (0 : Int32)), .val (.int ez), .val (.ref b10), .val (.ref b11), .val u12, .val u13, .val u14, .val (.ref a218), .val (.int (1 : Int32)), .val (.int (0 : Int32))]) rfl kk) ?_
            refine own_step (T' := T245) (g' := (mkF m 214 #[.val (.int p0), .val (.int p1), .val (.int p2), .val (.int p3), .val (.int p4), .val (.int p5), .val (.int k6), .val (.ref x7), .val (.int (0 : Int32)), .val (.int ez), .val (.ref b10), .val (.ref b11), .val u12, .val u13, .val u14, .val (.ref a218), .val (.int (1 : Int32)), .val (.int (0 : Int32))] [(.ref a218)])) (fun _ kk => XS.aload X245.here hx rfl (hb hby at_212) rfl rfl kk) ?_
            obtain ⟨T251, L251, _, h251, X251, e251, ⟨rfl, Nq250, eh250⟩, st251⟩ := own_callV X245 hx hZ1 ho1 (w76 hw) (w77 hw) (w79 hw) (w78 hw) (w80 hw) (w40 hw) (by decide) F226.1 (g := (mkF m 214 #[.val (.int p0), .val (.int p1), .val (.int p2), .val (.int p3), .val (.int p4), .val (.int p5), .val (.int k6), .val (.ref x7), .val (.int (0 : Int32)), .val (.int ez), .val (.ref b10), .val (.ref b11), .val u12, .val u13, .val u14, .val (.ref a218), .val (.int (1 : Int32)), .val (.int (0 : Int32))] [(.ref a218)])) rfl (by rw [hml]; rfl) (argsL := []) (rest := []) (rm_or l Z a0 hw a218 x7 (1 : Int32) u12 _ F228 Fop Fid (E7.ext F228.2) (F7x.ext F228.2) rfl r12) e245 pd___Z rfl rfl (W := 0) (by show 2 * 0 + _ ≤ _; exact Nat.le_of_eq rfl) (hb hby at_214) (by decide) (by decide) (by decide) (by decide)
            have F252 := Fr.app F225 Nq250
            have F253 := e251.trans eh250
            refine own_step (T' := T251) (g' := (mkF m 217 #[.val (.int p0), .val (.int p1), .val (.int p2), .val (.int p3), .val (.int p4), .val (.int p5), .val (.int k6), .val (.ref x7), .val (.int (0 : Int32)), .val (.int ez), .val (.ref b10), .val (.ref b11), .val u12, .val u13, .val u14, .val (.ref a218), .val (.int (1 : Int32)), .val (.int (0 : Int32))] [(.int (if (1 : Int32) = (0 : Int32) then (0 : Int32) else if u12 = Value.null then (1 : Int32) else (0 : Int32)))])) (fun _ kk => st251 _ kk) ?_
            refine own_step (T' := T251) (g' := (mkF m 219 #[.val (.int p0), .val (.int p1), .val (.int p2), .val (.int p3), .val (.int p4), .val (.int p5), .val (.int k6), .val (.ref x7), .val (.int (0 : Int32)), .val (.int ez), .val (.ref b10), .val (.ref b11), .val u12, .val u13, .val u14, .val (.ref a218), .val (.int (1 : Int32)), .val (.int (0 : Int32))] [(.int (0 : Int32)), (.int (if (1 : Int32) = (0 : Int32) then (0 : Int32) else if u12 = Value.null then (1 : Int32) else (0 : Int32)))])) (fun _ kk => XS.iload X251.here hx rfl (hb hby at_217) rfl kk) ?_
            refine own_step (T' := T251) (g' := (mkF m 222 #[.val (.int p0), .val (.int p1), .val (.int p2), .val (.int p3), .val (.int p4), .val (.int p5), .val (.int k6), .val (.ref x7), .val (.int (0 : Int32)), .val (.int ez), .val (.ref b10), .val (.ref b11), .val u12, .val u13, .val u14, .val (.ref a218), .val (.int (1 : Int32)), .val (.int (0 : Int32))] [])) (fun _ kk => XS.icmpNo X251.here hx rfl (hb hby at_219) rfl (teq (by rw [if_neg (by decide), if_neg hn])).2 kk) ?_
            refine own_step (T' := T251) (g' := (mkF m 223 #[.val (.int p0), .val (.int p1), .val (.int p2), .val (.int p3), .val (.int p4), .val (.int p5), .val (.int k6), .val (.ref x7), .val (.int (0 : Int32)), .val (.int ez), .val (.ref b10), .val (.ref b11), .val u12, .val u13, .val u14, .val (.ref a218), .val (.int (1 : Int32)), .val (.int (0 : Int32))] [(.int (1 : Int32))])) (fun _ kk => XS.iconst X251.here hx rfl (hb hby at_222) kk) ?_
            refine own_step (T' := T251) (g' := (mkF m 227 #[.val (.int p0), .val (.int p1), .val (.int p2), .val (.int p3), .val (.int p4), .val (.int p5), .val (.int k6), .val (.ref x7), .val (.int (0 : Int32)), .val (.int ez), .val (.ref b10), .val (.ref b11), .val u12, .val u13, .val u14, .val (.ref a218), .val (.int (1 : Int32)), .val (.int (0 : Int32))] [(.int (1 : Int32))])) (fun _ kk => XS.goto X251.here hx rfl (pc0 := 223) (pc' := 227) rfl (hb hby at_223) (by decide) (by decide) kk) ?_
            exact own_retNW X251 hx hS1 F227 hlk (t := .boolean) hret (by simp) (hb hby at_227) F253 ⟨rfl, F252⟩ (by decide) (by decide)
        · refine own_step (T' := T245) (g' := (mkF m 180 #[.val (.int p0), .val (.int p1), .val (.int p2), .val (.int p3), .val (.int p4), .val (.int p5), .val (.int k6), .val (.ref x7), .val (.int nz), .val (.int ez), .val (.ref b10), .val (.ref b11), .val u12, .val u13, .val u14, .val (.ref a218), .unset, .unset] [])) (fun _ kk => acmp X245 hx rfl rfl rfl (pc0 := 177) (pc' := 180) rfl (hb hby at_177) rfl (same := false) (by simpa using q6) (by decide) rfl kk) ?_
          refine own_step (T' := T245) (g' := (mkF m 182 #[.val (.int p0), .val (.int p1), .val (.int p2), .val (.int p3), .val (.int p4), .val (.int p5), .val (.int k6), .val (.ref x7), .val (.int nz), .val (.int ez), .val (.ref b10), .val (.ref b11), .val u12, .val u13, .val u14, .val (.ref a218), .unset, .unset] [(.ref x7)])) (fun _ kk => XS.aload X245.here hx rfl (hb hby at_180) rfl rfl kk) ?_
          obtain ⟨T254, X254, e254, st254⟩ := getS (host := "") X245 hx hZ1 ho1 (w74 hw) Via.refl e245 (S7.ext F228.2) (g := (mkF m 182 #[.val (.int p0), .val (.int p1), .val (.int p2), .val (.int p3), .val (.int p4), .val (.int p5), .val (.int k6), .val (.ref x7), .val (.int nz), .val (.int ez), .val (.ref b10), .val (.ref b11), .val u12, .val u13, .val u14, .val (.ref a218), .unset, .unset] [(.ref x7)])) rfl (hb hby at_182)
          refine own_step (T' := T254) (g' := (mkF m 185 #[.val (.int p0), .val (.int p1), .val (.int p2), .val (.int p3), .val (.int p4), .val (.int p5), .val (.int k6), .val (.ref x7), .val (.int nz), .val (.int ez), .val (.ref b10), .val (.ref b11), .val u12, .val u13, .val u14, .val (.ref a218), .unset, .unset] [(.ref o7), (.ref x7)])) (fun _ kk => st254 _ kk) ?_
          have q7 : x7 = o7 := by rcases ho with q | q | q; exact absurd q q5; exact absurd q q6; exact q
          refine own_step (T' := T254) (g' := (mkF m 188 #[.val (.int p0), .val (.int p1), .val (.int p2), .val (.int p3), .val (.int p4), .val (.int p5), .val (.int k6), .val (.ref x7), .val (.int nz), .val (.int ez), .val (.ref b10), .val (.ref b11), .val u12, .val u13, .val u14, .val (.ref a218), .unset, .unset] [])) (fun _ kk => acmp X254 hx rfl rfl rfl (pc0 := 185) (pc' := 188) rfl (hb hby at_185) rfl (same := true) (by simpa using q7) (by decide) rfl kk) ?_
          refine own_step (T' := T254) (g' := (mkF m 189 #[.val (.int p0), .val (.int p1), .val (.int p2), .val (.int p3), .val (.int p4), .val (.int p5), .val (.int k6), .val (.ref x7), .val (.int nz), .val (.int ez), .val (.ref b10), .val (.ref b11), .val u12, .val u13, .val u14, .val (.ref a218), .unset, .unset] [(.int (1 : Int32))])) (fun _ kk => XS.iconst X254.here hx rfl (hb hby at_188) kk) ?_
          refine own_step (T' := T254) (g' := (mkF m 193 #[.val (.int p0), .val (.int p1), .val (.int p2), .val (.int p3), .val (.int p4), .val (.int p5), .val (.int k6), .val (.ref x7), .val (.int nz), .val (.int ez), .val (.ref b10), .val (.ref b11), .val u12, .val u13, .val u14, .val (.ref a218), .unset, .unset] [(.int (1 : Int32))])) (fun _ kk => XS.goto X254.here hx rfl (pc0 := 189) (pc' := 193) rfl (hb hby at_189) (by decide) (by decide) kk) ?_
          refine own_step (T' := T254) (g' := (mkF m 195 #[.val (.int p0), .val (.int p1), .val (.int p2), .val (.int p3), .val (.int p4), .val (.int p5), .val (.int k6), .val (.ref x7), .val (.int nz), .val (.int ez), .val (.ref b10), .val (.ref b11), .val u12, .val u13, .val u14, .val (.ref a218), .val (.int (1 : Int32)), .unset] [])) (fun _ kk => XS.istore X254.here hx rfl (hb hby at_193) rfl (l' := #[.val (.int p0), .val (.int p1), .val (.int p2), .val (.int p3), .val (.int p4), .val (.int p5), .val (.int k6), .val (.ref x7), .val (.int nz), .val (.int ez), .val (.ref b10), .val (.ref b11), .val u12, .val u13, .val u14, .val (.ref a218), .val (.int (1 : Int32)), .unset]) rfl kk) ?_
          refine own_step (T' := T254) (g' := (mkF m 197 #[.val (.int p0), .val (.int p1), .val (.int p2), .val (.int p3), .val (.int p4), .val (.int p5), .val (.int k6), .val (.ref x7), .val (.int nz), .val (.int ez), .val (.ref b10), .val (.ref b11), .val u12, .val u13, .val u14, .val (.ref a218), .val (.int (1 : Int32)), .unset] [(.int (1 : Int32))])) (fun _ kk => XS.iload X254.here hx rfl (hb hby at_195) rfl kk) ?_
          refine own_step (T' := T254) (g' := (mkF m 200 #[.val (.int p0), .val (.int p1), .val (.int p2), .val (.int p3), .val (.int p4), .val (.int p5), .val (.int k6), .val (.ref x7), .val (.int nz), .val (.int ez), .val (.ref b10), .val (.ref b11), .val u12, .val u13, .val u14, .val (.ref a218), .val (.int (1 : Int32)), .unset] [])) (fun _ kk => XS.ifNo X254.here hx rfl (hb hby at_197) rfl ((if0 _ _).trans (feq (by decide)).1) kk) ?_
          refine own_step (T' := T254) (g' := (mkF m 202 #[.val (.int p0), .val (.int p1), .val (.int p2), .val (.int p3), .val (.int p4), .val (.int p5), .val (.int k6), .val (.ref x7), .val (.int nz), .val (.int ez), .val (.ref b10), .val (.ref b11), .val u12, .val u13, .val u14, .val (.ref a218), .val (.int (1 : Int32)), .unset] [(.int nz)])) (fun _ kk => XS.iload X254.here hx rfl (hb hby at_200) rfl kk) ?_
          rcases hid with ⟨hn, rfl⟩ | ⟨hn, rfl⟩
          · refine own_step (T' := T254) (g' := (mkF m 205 #[.val (.int p0), .val (.int p1), .val (.int p2), .val (.int p3), .val (.int p4), .val (.int p5), .val (.int k6), .val (.ref x7), .val (.int (1 : Int32)), .val (.int ez), .val (.ref b10), .val (.ref b11), .val u12, .val u13, .val u14, .val (.ref a218), .val (.int (1 : Int32)), .unset] [])) (fun _ kk => XS.ifNo X254.here hx rfl (hb hby at_202) rfl ((if0 _ _).trans (feq (by decide)).1) kk) ?_
            refine own_step (T' := T254) (g' := (mkF m 206 #[.val (.int p0), .val (.int p1), .val (.int p2), .val (.int p3), .val (.int p4), .val (.int p5), .val (.int k6), .val (.ref x7), .val (.int (1 : Int32)), .val (.int ez), .val (.ref b10), .val (.ref b11), .val u12, .val u13, .val u14, .val (.ref a218), .val (.int (1 : Int32)), .unset] [(.int (1 : Int32))])) (fun _ kk => XS.iconst X254.here hx rfl (hb hby at_205) kk) ?_
            refine own_step (T' := T254) (g' := (mkF m 210 #[.val (.int p0), .val (.int p1), .val (.int p2), .val (.int p3), .val (.int p4), .val (.int p5), .val (.int k6), .val (.ref x7), .val (.int (1 : Int32)), .val (.int ez), .val (.ref b10), .val (.ref b11), .val u12, .val u13, .val u14, .val (.ref a218), .val (.int (1 : Int32)), .unset] [(.int (1 : Int32))])) (fun _ kk => XS.goto X254.here hx rfl (pc0 := 206) (pc' := 210) rfl (hb hby at_206) (by decide) (by decide) kk) ?_
            refine own_step (T' := T254) (g' := (mkF m 212 #[.val (.int p0), .val (.int p1), .val (.int p2), .val (.int p3), .val (.int p4), .val (.int p5), .val (.int k6), .val (.ref x7), .val (.int (1 : Int32)), .val (.int ez), .val (.ref b10), .val (.ref b11), .val u12, .val u13, .val u14, .val (.ref a218), .val (.int (1 : Int32)), .val (.int (1 : Int32))] [])) (fun _ kk => XS.istore X254.here hx rfl (hb hby at_210) rfl (l' := #[.val (.int p0), .val (.int p1), .val (.int p2), .val (.int p3), .val (.int p4), .val (.int p5), .val (.int k6), .val (.ref x7), .val (.int (1 : Int32)), .val (.int ez), .val (.ref b10), .val (.ref b11), .val u12, .val u13, .val u14, .val (.ref a218), .val (.int (1 : Int32)), .val (.int (1 : Int32))]) rfl kk) ?_
            refine own_step (T' := T254) (g' := (mkF m 214 #[.val (.int p0), .val (.int p1), .val (.int p2), .val (.int p3), .val (.int p4), .val (.int p5), .val (.int k6), .val (.ref x7), .val (.int (1 : Int32)), .val (.int ez), .val (.ref b10), .val (.ref b11), .val u12, .val u13, .val u14, .val (.ref a218), .val (.int (1 : Int32)), .val (.int (1 : Int32))] [(.ref a218)])) (fun _ kk => XS.aload X254.here hx rfl (hb hby at_212) rfl rfl kk) ?_
            obtain ⟨T256, L256, _, h256, X256, e256, ⟨rfl, Nq255, eh255⟩, st256⟩ := own_callV X254 hx hZ1 ho1 (w76 hw) (w77 hw) (w79 hw) (w78 hw) (w80 hw) (w40 hw) (by decide) F226.1 (g := (mkF m 214 #[.val (.int p0), .val (.int p1), .val (.int p2), .val (.int p3), .val (.int p4), .val (.int p5), .val (.int k6), .val (.ref x7), .val (.int (1 : Int32)), .val (.int ez), .val (.ref b10), .val (.ref b11), .val u12, .val u13, .val u14, .val (.ref a218), .val (.int (1 : Int32)), .val (.int (1 : Int32))] [(.ref a218)])) rfl (by rw [hml]; rfl) (argsL := []) (rest := []) (rm_or l Z a0 hw a218 x7 (1 : Int32) u12 _ F228 Fop Fid (E7.ext F228.2) (F7x.ext F228.2) rfl r12) e254 pd___Z rfl rfl (W := 0) (by show 2 * 0 + _ ≤ _; exact Nat.le_of_eq rfl) (hb hby at_214) (by decide) (by decide) (by decide) (by decide)
            have F257 := Fr.app F225 Nq255
            have F258 := e256.trans eh255
            refine own_step (T' := T256) (g' := (mkF m 217 #[.val (.int p0), .val (.int p1), .val (.int p2), .val (.int p3), .val (.int p4), .val (.int p5), .val (.int k6), .val (.ref x7), .val (.int (1 : Int32)), .val (.int ez), .val (.ref b10), .val (.ref b11), .val u12, .val u13, .val u14, .val (.ref a218), .val (.int (1 : Int32)), .val (.int (1 : Int32))] [(.int (if (1 : Int32) = (0 : Int32) then (0 : Int32) else if u12 = Value.null then (1 : Int32) else (0 : Int32)))])) (fun _ kk => st256 _ kk) ?_
            refine own_step (T' := T256) (g' := (mkF m 219 #[.val (.int p0), .val (.int p1), .val (.int p2), .val (.int p3), .val (.int p4), .val (.int p5), .val (.int k6), .val (.ref x7), .val (.int (1 : Int32)), .val (.int ez), .val (.ref b10), .val (.ref b11), .val u12, .val u13, .val u14, .val (.ref a218), .val (.int (1 : Int32)), .val (.int (1 : Int32))] [(.int (1 : Int32)), (.int (if (1 : Int32) = (0 : Int32) then (0 : Int32) else if u12 = Value.null then (1 : Int32) else (0 : Int32)))])) (fun _ kk => XS.iload X256.here hx rfl (hb hby at_217) rfl kk) ?_
            refine own_step (T' := T256) (g' := (mkF m 222 #[.val (.int p0), .val (.int p1), .val (.int p2), .val (.int p3), .val (.int p4), .val (.int p5), .val (.int k6), .val (.ref x7), .val (.int (1 : Int32)), .val (.int ez), .val (.ref b10), .val (.ref b11), .val u12, .val u13, .val u14, .val (.ref a218), .val (.int (1 : Int32)), .val (.int (1 : Int32))] [])) (fun _ kk => XS.icmpNo X256.here hx rfl (hb hby at_219) rfl (teq (by rw [if_neg (by decide), if_pos hn])).2 kk) ?_
            refine own_step (T' := T256) (g' := (mkF m 223 #[.val (.int p0), .val (.int p1), .val (.int p2), .val (.int p3), .val (.int p4), .val (.int p5), .val (.int k6), .val (.ref x7), .val (.int (1 : Int32)), .val (.int ez), .val (.ref b10), .val (.ref b11), .val u12, .val u13, .val u14, .val (.ref a218), .val (.int (1 : Int32)), .val (.int (1 : Int32))] [(.int (1 : Int32))])) (fun _ kk => XS.iconst X256.here hx rfl (hb hby at_222) kk) ?_
            refine own_step (T' := T256) (g' := (mkF m 227 #[.val (.int p0), .val (.int p1), .val (.int p2), .val (.int p3), .val (.int p4), .val (.int p5), .val (.int k6), .val (.ref x7), .val (.int (1 : Int32)), .val (.int ez), .val (.ref b10), .val (.ref b11), .val u12, .val u13, .val u14, .val (.ref a218), .val (.int (1 : Int32)), .val (.int (1 : Int32))] [(.int (1 : Int32))])) (fun _ kk => XS.goto X256.here hx rfl (pc0 := 223) (pc' := 227) rfl (hb hby at_223) (by decide) (by decide) kk) ?_
            exact own_retNW X256 hx hS1 F227 hlk (t := .boolean) hret (by simp) (hb hby at_227) F258 ⟨rfl, F257⟩ (by decide) (by decide)
          · refine own_step (T' := T254) (g' := (mkF m 209 #[.val (.int p0), .val (.int p1), .val (.int p2), .val (.int p3), .val (.int p4), .val (.int p5), .val (.int k6), .val (.ref x7), .val (.int (0 : Int32)), .val (.int ez), .val (.ref b10), .val (.ref b11), .val u12, .val u13, .val u14, .val (.ref a218), .val (.int (1 : Int32)), .unset] [])) (fun _ kk => XS.ifYes X254.here hx rfl (pc0 := 202) (pc' := 209) rfl (hb hby at_202) rfl ((if0 _ _).trans (teq rfl).1) (by decide) (by decide) kk) ?_
            refine own_step (T' := T254) (g' := (mkF m 210 #[.val (.int p0), .val (.int p1), .val (.int p2), .val (.int p3), .val (.int p4), .val (.int p5), .val (.int k6), .val (.ref x7), .val (.int (0 : Int32)), .val (.int ez), .val (.ref b10), .val (.ref b11), .val u12, .val u13, .val u14, .val (.ref a218), .val (.int (1 : Int32)), .unset] [(.int (0 : Int32))])) (fun _ kk => XS.iconst X254.here hx rfl (hb hby at_209) kk) ?_
            refine own_step (T' := T254) (g' := (mkF m 212 #[.val (.int p0), .val (.int p1), .val (.int p2), .val (.int p3), .val (.int p4), .val (.int p5), .val (.int k6), .val (.ref x7), .val (.int (0 : Int32)), .val (.int ez), .val (.ref b10), .val (.ref b11), .val u12, .val u13, .val u14, .val (.ref a218), .val (.int (1 : Int32)), .val (.int (0 : Int32))] [])) (fun _ kk => XS.istore X254.here hx rfl (hb hby at_210) rfl (l' := #[.val (.int p0), .val (.int p1), .val (.int p2), .val (.int p3), .val (.int p4), .val (.int p5), .val (.int k6), .val (.ref x7), .val (.int (0 : Int32)), .val (.int ez), .val (.ref b10), .val (.ref b11), .val u12, .val u13, .val u14, .val (.ref a218), .val (.int (1 : Int32)), .val (.int (0 : Int32))]) rfl kk) ?_
            refine own_step (T' := T254) (g' := (mkF m 214 #[.val (.int p0), .val (.int p1), .val (.int p2), .val (.int p3), .val (.int p4), .val (.int p5), .val (.int k6), .val (.ref x7), .val (.int (0 : Int32)), .val (.int ez), .val (.ref b10), .val (.ref b11), .val u12, .val u13, .val u14, .val (.ref a218), .val (.int (1 : Int32)), .val (.int (0 : Int32))] [(.ref a218)])) (fun _ kk => XS.aload X254.here hx rfl (hb hby at_212) rfl rfl kk) ?_
            obtain ⟨T260, L260, _, h260, X260, e260, ⟨rfl, Nq259, eh259⟩, st260⟩ := own_callV X254 hx hZ1 ho1 (w76 hw) (w77 hw) (w79 hw) (w78 hw) (w80 hw) (w40 hw) (by decide) F226.1 (g := (mkF m 214 #[.val (.int p0), .val (.int p1), .val (.int p2), .val (.int p3), .val (.int p4), .val (.int p5), .val (.int k6), .val (.ref x7), .val (.int (0 : Int32)), .val (.int ez), .val (.ref b10), .val (.ref b11), .val u12, .val u13, .val u14, .val (.ref a218), .val (.int (1 : Int32)), .val (.int (0 : Int32))] [(.ref a218)])) rfl (by rw [hml]; rfl) (argsL := []) (rest := []) (rm_or l Z a0 hw a218 x7 (1 : Int32) u12 _ F228 Fop Fid (E7.ext F228.2) (F7x.ext F228.2) rfl r12) e254 pd___Z rfl rfl (W := 0) (by show 2 * 0 + _ ≤ _; exact Nat.le_of_eq rfl) (hb hby at_214) (by decide) (by decide) (by decide) (by decide)
            have F261 := Fr.app F225 Nq259
            have F262 := e260.trans eh259
            refine own_step (T' := T260) (g' := (mkF m 217 #[.val (.int p0), .val (.int p1), .val (.int p2), .val (.int p3), .val (.int p4), .val (.int p5), .val (.int k6), .val (.ref x7), .val (.int (0 : Int32)), .val (.int ez), .val (.ref b10), .val (.ref b11), .val u12, .val u13, .val u14, .val (.ref a218), .val (.int (1 : Int32)), .val (.int (0 : Int32))] [(.int (if (1 : Int32) = (0 : Int32) then (0 : Int32) else if u12 = Value.null then (1 : Int32) else (0 : Int32)))])) (fun _ kk => st260 _ kk) ?_
            refine own_step (T' := T260) (g' := (mkF m 219 #[.val (.int p0), .val (.int p1), .val (.int p2), .val (.int p3), .val (.int p4), .val (.int p5), .val (.int k6), .val (.ref x7), .val (.int (0 : Int32)), .val (.int ez), .val (.ref b10), .val (.ref b11), .val u12, .val u13, .val u14, .val (.ref a218), .val (.int (1 : Int32)), .val (.int (0 : Int32))] [(.int (0 : Int32)), (.int (if (1 : Int32) = (0 : Int32) then (0 : Int32) else if u12 = Value.null then (1 : Int32) else (0 : Int32)))])) (fun _ kk => XS.iload X260.here hx rfl (hb hby at_217) rfl kk) ?_
            refine own_step (T' := T260) (g' := (mkF m 222 #[.val (.int p0), .val (.int p1), .val (.int p2), .val (.int p3), .val (.int p4), .val (.int p5), .val (.int k6), .val (.ref x7), .val (.int (0 : Int32)), .val (.int ez), .val (.ref b10), .val (.ref b11), .val u12, .val u13, .val u14, .val (.ref a218), .val (.int (1 : Int32)), .val (.int (0 : Int32))] [])) (fun _ kk => XS.icmpNo X260.here hx rfl (hb hby at_219) rfl (teq (by rw [if_neg (by decide), if_neg hn])).2 kk) ?_
            refine own_step (T' := T260) (g' := (mkF m 223 #[.val (.int p0), .val (.int p1), .val (.int p2), .val (.int p3), .val (.int p4), .val (.int p5), .val (.int k6), .val (.ref x7), .val (.int (0 : Int32)), .val (.int ez), .val (.ref b10), .val (.ref b11), .val u12, .val u13, .val u14, .val (.ref a218), .val (.int (1 : Int32)), .val (.int (0 : Int32))] [(.int (1 : Int32))])) (fun _ kk => XS.iconst X260.here hx rfl (hb hby at_222) kk) ?_
            refine own_step (T' := T260) (g' := (mkF m 227 #[.val (.int p0), .val (.int p1), .val (.int p2), .val (.int p3), .val (.int p4), .val (.int p5), .val (.int k6), .val (.ref x7), .val (.int (0 : Int32)), .val (.int ez), .val (.ref b10), .val (.ref b11), .val u12, .val u13, .val u14, .val (.ref a218), .val (.int (1 : Int32)), .val (.int (0 : Int32))] [(.int (1 : Int32))])) (fun _ kk => XS.goto X260.here hx rfl (pc0 := 223) (pc' := 227) rfl (hb hby at_223) (by decide) (by decide) kk) ?_
            exact own_retNW X260 hx hS1 F227 hlk (t := .boolean) hret (by simp) (hb hby at_227) F262 ⟨rfl, F261⟩ (by decide) (by decide)
  refine own_step (T' := s₁) (g' := (mkF m 1 #[.val (.int p0), .val (.int p1), .val (.int p2), .val (.int p3), .val (.int p4), .val (.int p5), .unset, .unset, .unset, .unset, .unset, .unset, .unset, .unset, .unset, .unset, .unset, .unset] [(.int p0)])) (fun _ kk => XS.iloadN X0.here hx rfl (hb hby at_0) rfl kk) ?_
  refine own_step (T' := s₁) (g' := (mkF m 3 #[.val (.int p0), .val (.int p1), .val (.int p2), .val (.int p3), .val (.int p4), .val (.int p5), .unset, .unset, .unset, .unset, .unset, .unset, .unset, .unset, .unset, .unset, .unset, .unset] [(.int (2147483647 : Int32)), (.int p0)])) (fun _ kk => X0.ldcInt hx hown (mvT hZ (w0 hw)) (g := (mkF m 1 #[.val (.int p0), .val (.int p1), .val (.int p2), .val (.int p3), .val (.int p4), .val (.int p5), .unset, .unset, .unset, .unset, .unset, .unset, .unset, .unset, .unset, .unset, .unset, .unset] [(.int p0)])) rfl (hb hby at_1) _ kk) ?_
  refine own_step (T' := s₁) (g' := (mkF m 4 #[.val (.int p0), .val (.int p1), .val (.int p2), .val (.int p3), .val (.int p4), .val (.int p5), .unset, .unset, .unset, .unset, .unset, .unset, .unset, .unset, .unset, .unset, .unset, .unset] [(.int (p0 &&& (2147483647 : Int32)))])) (fun _ kk => XS.iand X0.here hx rfl (hb hby at_3) rfl kk) ?_
  refine own_step (T' := s₁) (g' := (mkF m 6 #[.val (.int p0), .val (.int p1), .val (.int p2), .val (.int p3), .val (.int p4), .val (.int p5), .unset, .unset, .unset, .unset, .unset, .unset, .unset, .unset, .unset, .unset, .unset, .unset] [(.int (8 : Int32)), (.int (p0 &&& (2147483647 : Int32)))])) (fun _ kk => XS.bipush X0.here hx rfl (hb hby at_4) kk) ?_
  refine own_step (T' := s₁) (g' := (mkF m 7 #[.val (.int p0), .val (.int p1), .val (.int p2), .val (.int p3), .val (.int p4), .val (.int p5), .unset, .unset, .unset, .unset, .unset, .unset, .unset, .unset, .unset, .unset, .unset, .unset] [(.int ((p0 &&& (2147483647 : Int32)) % (8 : Int32)))])) (fun _ kk => iremM X0 hx rfl (hb hby at_6) rfl (by decide) kk) ?_
  refine own_step (T' := s₁) (g' := (mkF m 9 #[.val (.int p0), .val (.int p1), .val (.int p2), .val (.int p3), .val (.int p4), .val (.int p5), .val (.int ((p0 &&& (2147483647 : Int32)) % (8 : Int32))), .unset, .unset, .unset, .unset, .unset, .unset, .unset, .unset, .unset, .unset, .unset] [])) (fun _ kk => XS.istore X0.here hx rfl (hb hby at_7) rfl (l' := #[.val (.int p0), .val (.int p1), .val (.int p2), .val (.int p3), .val (.int p4), .val (.int p5), .val (.int ((p0 &&& (2147483647 : Int32)) % (8 : Int32))), .unset, .unset, .unset, .unset, .unset, .unset, .unset, .unset, .unset, .unset, .unset]) rfl kk) ?_
  refine own_step (T' := s₁) (g' := (mkF m 11 #[.val (.int p0), .val (.int p1), .val (.int p2), .val (.int p3), .val (.int p4), .val (.int p5), .val (.int ((p0 &&& (2147483647 : Int32)) % (8 : Int32))), .unset, .unset, .unset, .unset, .unset, .unset, .unset, .unset, .unset, .unset, .unset] [(.int ((p0 &&& (2147483647 : Int32)) % (8 : Int32)))])) (fun _ kk => XS.iload X0.here hx rfl (hb hby at_9) rfl kk) ?_
  obtain ⟨T263, L263, _, h263, X263, e263, ⟨x7, rfl, Nq, eh, PX⟩, st263⟩ := own_callS X0 hx hZ hown (w1 hw) (w2 hw) (w4 hw) (w3 hw) (by decide) (g := (mkF m 11 #[.val (.int p0), .val (.int p1), .val (.int p2), .val (.int p3), .val (.int p4), .val (.int p5), .val (.int ((p0 &&& (2147483647 : Int32)) % (8 : Int32))), .unset, .unset, .unset, .unset, .unset, .unset, .unset, .unset, .unset, .unset, .unset] [(.int ((p0 &&& (2147483647 : Int32)) % (8 : Int32)))])) rfl (by rw [hml]; rfl) (argsL := [(.int ((p0 &&& (2147483647 : Int32)) % (8 : Int32)))]) (rest := []) (rm_pick l Z a0 hw ((p0 &&& (2147483647 : Int32)) % (8 : Int32)) o0 o1 o2 o3 o4 o5 o6 o7 (own_P Z o5 o6 o7) _ O0 S0 S1 S2 S3 S4 S5 S6 S7 (own_P0 E0 F0 F5 F6 F7) (own_P0 E1 F1 F5 F6 F7) (own_P0 E2 F2 F5 F6 F7) (own_P0 E3 F3 F5 F6 F7) (own_P0 E4 F4 F5 F6 F7) ⟨E5, Or.inr ⟨F5, Or.inl rfl⟩⟩ ⟨E6, Or.inr ⟨F6, Or.inr (Or.inl rfl)⟩⟩ ⟨E7, Or.inr ⟨F7, Or.inr (Or.inr rfl)⟩⟩) e0 pd__I_Lcom_example_deltatrace_deltatrace_LogEvent_Op_ rfl rfl (W := 0) (by show 2 * 0 + _ ≤ _; exact Nat.le_of_eq rfl) (hb hby at_11) (by decide) (by decide) (by decide) (by decide)
  have F264 := Fr.app F216 Nq
  have F265 := e263.trans eh
  refine own_step (T' := T263) (g' := (mkF m 14 #[.val (.int p0), .val (.int p1), .val (.int p2), .val (.int p3), .val (.int p4), .val (.int p5), .val (.int ((p0 &&& (2147483647 : Int32)) % (8 : Int32))), .unset, .unset, .unset, .unset, .unset, .unset, .unset, .unset, .unset, .unset, .unset] [(.ref x7)])) (fun _ kk => st263 _ kk) ?_
  refine own_step (T' := T263) (g' := (mkF m 16 #[.val (.int p0), .val (.int p1), .val (.int p2), .val (.int p3), .val (.int p4), .val (.int p5), .val (.int ((p0 &&& (2147483647 : Int32)) % (8 : Int32))), .val (.ref x7), .unset, .unset, .unset, .unset, .unset, .unset, .unset, .unset, .unset, .unset] [])) (fun _ kk => XS.astore X263.here hx rfl (hb hby at_14) rfl rfl (l' := #[.val (.int p0), .val (.int p1), .val (.int p2), .val (.int p3), .val (.int p4), .val (.int p5), .val (.int ((p0 &&& (2147483647 : Int32)) % (8 : Int32))), .val (.ref x7), .unset, .unset, .unset, .unset, .unset, .unset, .unset, .unset, .unset, .unset]) rfl kk) ?_
  refine own_step (T' := T263) (g' := (mkF m 17 #[.val (.int p0), .val (.int p1), .val (.int p2), .val (.int p3), .val (.int p4), .val (.int p5), .val (.int ((p0 &&& (2147483647 : Int32)) % (8 : Int32))), .val (.ref x7), .unset, .unset, .unset, .unset, .unset, .unset, .unset, .unset, .unset, .unset] [(.int p1)])) (fun _ kk => XS.iloadN X263.here hx rfl (hb hby at_16) rfl kk) ?_
  refine own_step (T' := T263) (g' := (mkF m 18 #[.val (.int p0), .val (.int p1), .val (.int p2), .val (.int p3), .val (.int p4), .val (.int p5), .val (.int ((p0 &&& (2147483647 : Int32)) % (8 : Int32))), .val (.ref x7), .unset, .unset, .unset, .unset, .unset, .unset, .unset, .unset, .unset, .unset] [(.int (1 : Int32)), (.int p1)])) (fun _ kk => XS.iconst X263.here hx rfl (hb hby at_17) kk) ?_
  refine own_step (T' := T263) (g' := (mkF m 19 #[.val (.int p0), .val (.int p1), .val (.int p2), .val (.int p3), .val (.int p4), .val (.int p5), .val (.int ((p0 &&& (2147483647 : Int32)) % (8 : Int32))), .val (.ref x7), .unset, .unset, .unset, .unset, .unset, .unset, .unset, .unset, .unset, .unset] [(.int (p1 &&& (1 : Int32)))])) (fun _ kk => XS.iand X263.here hx rfl (hb hby at_18) rfl kk) ?_
  by_cases c266 : (p1 &&& (1 : Int32)) = (0 : Int32)
  · refine own_step (T' := T263) (g' := (mkF m 26 #[.val (.int p0), .val (.int p1), .val (.int p2), .val (.int p3), .val (.int p4), .val (.int p5), .val (.int ((p0 &&& (2147483647 : Int32)) % (8 : Int32))), .val (.ref x7), .unset, .unset, .unset, .unset, .unset, .unset, .unset, .unset, .unset, .unset] [])) (fun _ kk => XS.ifYes X263.here hx rfl (pc0 := 19) (pc' := 26) rfl (hb hby at_19) rfl ((if0 _ _).trans (teq c266).1) (by decide) (by decide) kk) ?_
    refine own_step (T' := T263) (g' := (mkF m 27 #[.val (.int p0), .val (.int p1), .val (.int p2), .val (.int p3), .val (.int p4), .val (.int p5), .val (.int ((p0 &&& (2147483647 : Int32)) % (8 : Int32))), .val (.ref x7), .unset, .unset, .unset, .unset, .unset, .unset, .unset, .unset, .unset, .unset] [(.int (0 : Int32))])) (fun _ kk => XS.iconst X263.here hx rfl (hb hby at_26) kk) ?_
    refine own_step (T' := T263) (g' := (mkF m 29 #[.val (.int p0), .val (.int p1), .val (.int p2), .val (.int p3), .val (.int p4), .val (.int p5), .val (.int ((p0 &&& (2147483647 : Int32)) % (8 : Int32))), .val (.ref x7), .val (.int (0 : Int32)), .unset, .unset, .unset, .unset, .unset, .unset, .unset, .unset, .unset] [])) (fun _ kk => XS.istore X263.here hx rfl (hb hby at_27) rfl (l' := #[.val (.int p0), .val (.int p1), .val (.int p2), .val (.int p3), .val (.int p4), .val (.int p5), .val (.int ((p0 &&& (2147483647 : Int32)) % (8 : Int32))), .val (.ref x7), .val (.int (0 : Int32)), .unset, .unset, .unset, .unset, .unset, .unset, .unset, .unset, .unset]) rfl kk) ?_
    refine own_step (T' := T263) (g' := (mkF m 30 #[.val (.int p0), .val (.int p1), .val (.int p2), .val (.int p3), .val (.int p4), .val (.int p5), .val (.int ((p0 &&& (2147483647 : Int32)) % (8 : Int32))), .val (.ref x7), .val (.int (0 : Int32)), .unset, .unset, .unset, .unset, .unset, .unset, .unset, .unset, .unset] [(.int p1)])) (fun _ kk => XS.iloadN X263.here hx rfl (hb hby at_29) rfl kk) ?_
    refine own_step (T' := T263) (g' := (mkF m 31 #[.val (.int p0), .val (.int p1), .val (.int p2), .val (.int p3), .val (.int p4), .val (.int p5), .val (.int ((p0 &&& (2147483647 : Int32)) % (8 : Int32))), .val (.ref x7), .val (.int (0 : Int32)), .unset, .unset, .unset, .unset, .unset, .unset, .unset, .unset, .unset] [(.int (4 : Int32)), (.int p1)])) (fun _ kk => XS.iconst X263.here hx rfl (hb hby at_30) kk) ?_
    refine own_step (T' := T263) (g' := (mkF m 32 #[.val (.int p0), .val (.int p1), .val (.int p2), .val (.int p3), .val (.int p4), .val (.int p5), .val (.int ((p0 &&& (2147483647 : Int32)) % (8 : Int32))), .val (.ref x7), .val (.int (0 : Int32)), .unset, .unset, .unset, .unset, .unset, .unset, .unset, .unset, .unset] [(.int (p1 &&& (4 : Int32)))])) (fun _ kk => XS.iand X263.here hx rfl (hb hby at_31) rfl kk) ?_
    by_cases c267 : (p1 &&& (4 : Int32)) = (0 : Int32)
    · refine own_step (T' := T263) (g' := (mkF m 39 #[.val (.int p0), .val (.int p1), .val (.int p2), .val (.int p3), .val (.int p4), .val (.int p5), .val (.int ((p0 &&& (2147483647 : Int32)) % (8 : Int32))), .val (.ref x7), .val (.int (0 : Int32)), .unset, .unset, .unset, .unset, .unset, .unset, .unset, .unset, .unset] [])) (fun _ kk => XS.ifYes X263.here hx rfl (pc0 := 32) (pc' := 39) rfl (hb hby at_32) rfl ((if0 _ _).trans (teq c267).1) (by decide) (by decide) kk) ?_
      refine own_step (T' := T263) (g' := (mkF m 40 #[.val (.int p0), .val (.int p1), .val (.int p2), .val (.int p3), .val (.int p4), .val (.int p5), .val (.int ((p0 &&& (2147483647 : Int32)) % (8 : Int32))), .val (.ref x7), .val (.int (0 : Int32)), .unset, .unset, .unset, .unset, .unset, .unset, .unset, .unset, .unset] [(.int (0 : Int32))])) (fun _ kk => XS.iconst X263.here hx rfl (hb hby at_39) kk) ?_
      refine own_step (T' := T263) (g' := (mkF m 42 #[.val (.int p0), .val (.int p1), .val (.int p2), .val (.int p3), .val (.int p4), .val (.int p5), .val (.int ((p0 &&& (2147483647 : Int32)) % (8 : Int32))), .val (.ref x7), .val (.int (0 : Int32)), .val (.int (0 : Int32)), .unset, .unset, .unset, .unset, .unset, .unset, .unset, .unset] [])) (fun _ kk => XS.istore X263.here hx rfl (hb hby at_40) rfl (l' := #[.val (.int p0), .val (.int p1), .val (.int p2), .val (.int p3), .val (.int p4), .val (.int p5), .val (.int ((p0 &&& (2147483647 : Int32)) % (8 : Int32))), .val (.ref x7), .val (.int (0 : Int32)), .val (.int (0 : Int32)), .unset, .unset, .unset, .unset, .unset, .unset, .unset, .unset]) rfl kk) ?_
      refine own_step (T' := T263) (g' := (mkF m 43 #[.val (.int p0), .val (.int p1), .val (.int p2), .val (.int p3), .val (.int p4), .val (.int p5), .val (.int ((p0 &&& (2147483647 : Int32)) % (8 : Int32))), .val (.ref x7), .val (.int (0 : Int32)), .val (.int (0 : Int32)), .unset, .unset, .unset, .unset, .unset, .unset, .unset, .unset] [(.int (2 : Int32))])) (fun _ kk => XS.iconst X263.here hx rfl (hb hby at_42) kk) ?_
      obtain ⟨T269, h269, cA269, X269, e269, E269, A269, st269⟩ := newP X263 hx hZ (aty := .char) (w8 hw) F265 (g := (mkF m 43 #[.val (.int p0), .val (.int p1), .val (.int p2), .val (.int p3), .val (.int p4), .val (.int p5), .val (.int ((p0 &&& (2147483647 : Int32)) % (8 : Int32))), .val (.ref x7), .val (.int (0 : Int32)), .val (.int (0 : Int32)), .unset, .unset, .unset, .unset, .unset, .unset, .unset, .unset] [(.int (2 : Int32))])) rfl (hb hby at_43) rfl (by decide) (cap := 2) (by decide) (by decide) (by decide) (by decide)
      obtain ⟨a268, g269⟩ : ∃ z, z = h0.size := ⟨_, rfl⟩
      rw [← g269] at A269 st269
      have ge270 : Z.heap.size ≤ a268 := by rw [g269]; exact O0.2.1
      have ng271 : h0.size ≤ a268 := by rw [g269]; exact F217.1
      have F272 := Nat.le_trans (Nat.zero_le _) E269.1
      have F273 := O0.ext E269
      have F274 := F217.ext E269
      have F275 : Arv Z h269 a268 cA269 .char (2 : Int32) [] (.int 0) := Arv.new A269 (by decide)
      refine own_step (T' := T269) (g' := (mkF m 45 #[.val (.int p0), .val (.int p1), .val (.int p2), .val (.int p3), .val (.int p4), .val (.int p5), .val (.int ((p0 &&& (2147483647 : Int32)) % (8 : Int32))), .val (.ref x7), .val (.int (0 : Int32)), .val (.int (0 : Int32)), .unset, .unset, .unset, .unset, .unset, .unset, .unset, .unset] [(.ref a268)])) (fun _ kk => st269 _ kk) ?_
      have F276 : Arv Z h269 a268 cA269 .char (2 : Int32) [(.int 0), (.int 0)] (.int 0) := Arv.pad F275 (pad_rep [] (.int 0) 2)
      refine own_step (T' := T269) (g' := (mkF m 46 #[.val (.int p0), .val (.int p1), .val (.int p2), .val (.int p3), .val (.int p4), .val (.int p5), .val (.int ((p0 &&& (2147483647 : Int32)) % (8 : Int32))), .val (.ref x7), .val (.int (0 : Int32)), .val (.int (0 : Int32)), .unset, .unset, .unset, .unset, .unset, .unset, .unset, .unset] [(.ref a268), (.ref a268)])) (fun _ kk => XS.dup X269.here hx rfl (hb hby at_45) rfl rfl kk) ?_
      refine own_step (T' := T269) (g' := (mkF m 47 #[.val (.int p0), .val (.int p1), .val (.int p2), .val (.int p3), .val (.int p4), .val (.int p5), .val (.int ((p0 &&& (2147483647 : Int32)) % (8 : Int32))), .val (.ref x7), .val (.int (0 : Int32)), .val (.int (0 : Int32)), .unset, .unset, .unset, .unset, .unset, .unset, .unset, .unset] [(.int (0 : Int32)), (.ref a268), (.ref a268)])) (fun _ kk => XS.iconst X269.here hx rfl (hb hby at_46) kk) ?_
      refine own_step (T' := T269) (g' := (mkF m 48 #[.val (.int p0), .val (.int p1), .val (.int p2), .val (.int p3), .val (.int p4), .val (.int p5), .val (.int ((p0 &&& (2147483647 : Int32)) % (8 : Int32))), .val (.ref x7), .val (.int (0 : Int32)), .val (.int (0 : Int32)), .unset, .unset, .unset, .unset, .unset, .unset, .unset, .unset] [(.int p2), (.int (0 : Int32)), (.ref a268), (.ref a268)])) (fun _ kk => XS.iloadN X269.here hx rfl (hb hby at_47) rfl kk) ?_
      refine own_step (T' := T269) (g' := (mkF m 51 #[.val (.int p0), .val (.int p1), .val (.int p2), .val (.int p3), .val (.int p4), .val (.int p5), .val (.int ((p0 &&& (2147483647 : Int32)) % (8 : Int32))), .val (.ref x7), .val (.int (0 : Int32)), .val (.int (0 : Int32)), .unset, .unset, .unset, .unset, .unset, .unset, .unset, .unset] [(.int (255 : Int32)), (.int p2), (.int (0 : Int32)), (.ref a268), (.ref a268)])) (fun _ kk => XS.sipush X269.here hx rfl (hb hby at_48) kk) ?_
      refine own_step (T' := T269) (g' := (mkF m 52 #[.val (.int p0), .val (.int p1), .val (.int p2), .val (.int p3), .val (.int p4), .val (.int p5), .val (.int ((p0 &&& (2147483647 : Int32)) % (8 : Int32))), .val (.ref x7), .val (.int (0 : Int32)), .val (.int (0 : Int32)), .unset, .unset, .unset, .unset, .unset, .unset, .unset, .unset] [(.int (p2 &&& (255 : Int32))), (.int (0 : Int32)), (.ref a268), (.ref a268)])) (fun _ kk => XS.iand X269.here hx rfl (hb hby at_51) rfl kk) ?_
      refine own_step (T' := T269) (g' := (mkF m 53 #[.val (.int p0), .val (.int p1), .val (.int p2), .val (.int p3), .val (.int p4), .val (.int p5), .val (.int ((p0 &&& (2147483647 : Int32)) % (8 : Int32))), .val (.ref x7), .val (.int (0 : Int32)), .val (.int (0 : Int32)), .unset, .unset, .unset, .unset, .unset, .unset, .unset, .unset] [(.int ((p2 &&& (255 : Int32)).toUInt32.toUInt16.toUInt32.toInt32)), (.int (0 : Int32)), (.ref a268), (.ref a268)])) (fun _ kk => XS.i2c X269.here hx rfl (hb hby at_52) rfl kk) ?_
      rw [i2c_mask]
      obtain ⟨Ac277, Ar277, q277, Sz277, Nn277, Hs277, Gs277⟩ := F276
      obtain ⟨T277, h277, X277, e277, W277, st277⟩ := stC X269 hx hZ e269 Ar277 (j := (0 : Int32)) (x := (p2 &&& (255 : Int32))) (inb_of Sz277 ⟨by decide, by decide⟩) (g := (mkF m 53 #[.val (.int p0), .val (.int p1), .val (.int p2), .val (.int p3), .val (.int p4), .val (.int p5), .val (.int ((p0 &&& (2147483647 : Int32)) % (8 : Int32))), .val (.ref x7), .val (.int (0 : Int32)), .val (.int (0 : Int32)), .unset, .unset, .unset, .unset, .unset, .unset, .unset, .unset] [(.int (p2 &&& (255 : Int32))), (.int (0 : Int32)), (.ref a268), (.ref a268)])) rfl rfl (hb hby at_53)
      have F278 := Fr.snoc X277 F264 ge270
      have F279 := (Nat.le_trans F272 (Nat.le_of_eq (Wr.size W277).symm))
      have F280 := F273.wr W277 ge270
      have F281 := F274.wr W277 (Or.inr ng271)
      have F282 : Arv Z h277 a268 cA269 .char (2 : Int32) [(.int (p2 &&& (255 : Int32))), (.int 0)] (.int 0) := by
        have q := Arv.set Ar277 q277 Sz277 Nn277 Hs277 Gs277 (fits_nar_char _) W277 0 rfl (Nat.le_of_ble_eq_true rfl)
        rw [own_n255] at q
        exact q
      refine own_step (T' := T277) (g' := (mkF m 54 #[.val (.int p0), .val (.int p1), .val (.int p2), .val (.int p3), .val (.int p4), .val (.int p5), .val (.int ((p0 &&& (2147483647 : Int32)) % (8 : Int32))), .val (.ref x7), .val (.int (0 : Int32)), .val (.int (0 : Int32)), .unset, .unset, .unset, .unset, .unset, .unset, .unset, .unset] [(.ref a268)])) (fun _ kk => st277 _ kk) ?_
      refine own_step (T' := T277) (g' := (mkF m 55 #[.val (.int p0), .val (.int p1), .val (.int p2), .val (.int p3), .val (.int p4), .val (.int p5), .val (.int ((p0 &&& (2147483647 : Int32)) % (8 : Int32))), .val (.ref x7), .val (.int (0 : Int32)), .val (.int (0 : Int32)), .unset, .unset, .unset, .unset, .unset, .unset, .unset, .unset] [(.ref a268), (.ref a268)])) (fun _ kk => XS.dup X277.here hx rfl (hb hby at_54) rfl rfl kk) ?_
      refine own_step (T' := T277) (g' := (mkF m 56 #[.val (.int p0), .val (.int p1), .val (.int p2), .val (.int p3), .val (.int p4), .val (.int p5), .val (.int ((p0 &&& (2147483647 : Int32)) % (8 : Int32))), .val (.ref x7), .val (.int (0 : Int32)), .val (.int (0 : Int32)), .unset, .unset, .unset, .unset, .unset, .unset, .unset, .unset] [(.int (1 : Int32)), (.ref a268), (.ref a268)])) (fun _ kk => XS.iconst X277.here hx rfl (hb hby at_55) kk) ?_
      refine own_step (T' := T277) (g' := (mkF m 57 #[.val (.int p0), .val (.int p1), .val (.int p2), .val (.int p3), .val (.int p4), .val (.int p5), .val (.int ((p0 &&& (2147483647 : Int32)) % (8 : Int32))), .val (.ref x7), .val (.int (0 : Int32)), .val (.int (0 : Int32)), .unset, .unset, .unset, .unset, .unset, .unset, .unset, .unset] [(.int p3), (.int (1 : Int32)), (.ref a268), (.ref a268)])) (fun _ kk => XS.iloadN X277.here hx rfl (hb hby at_56) rfl kk) ?_
      refine own_step (T' := T277) (g' := (mkF m 60 #[.val (.int p0), .val (.int p1), .val (.int p2), .val (.int p3), .val (.int p4), .val (.int p5), .val (.int ((p0 &&& (2147483647 : Int32)) % (8 : Int32))), .val (.ref x7), .val (.int (0 : Int32)), .val (.int (0 : Int32)), .unset, .unset, .unset, .unset, .unset, .unset, .unset, .unset] [(.int (255 : Int32)), (.int p3), (.int (1 : Int32)), (.ref a268), (.ref a268)])) (fun _ kk => XS.sipush X277.here hx rfl (hb hby at_57) kk) ?_
      refine own_step (T' := T277) (g' := (mkF m 61 #[.val (.int p0), .val (.int p1), .val (.int p2), .val (.int p3), .val (.int p4), .val (.int p5), .val (.int ((p0 &&& (2147483647 : Int32)) % (8 : Int32))), .val (.ref x7), .val (.int (0 : Int32)), .val (.int (0 : Int32)), .unset, .unset, .unset, .unset, .unset, .unset, .unset, .unset] [(.int (p3 &&& (255 : Int32))), (.int (1 : Int32)), (.ref a268), (.ref a268)])) (fun _ kk => XS.iand X277.here hx rfl (hb hby at_60) rfl kk) ?_
      refine own_step (T' := T277) (g' := (mkF m 62 #[.val (.int p0), .val (.int p1), .val (.int p2), .val (.int p3), .val (.int p4), .val (.int p5), .val (.int ((p0 &&& (2147483647 : Int32)) % (8 : Int32))), .val (.ref x7), .val (.int (0 : Int32)), .val (.int (0 : Int32)), .unset, .unset, .unset, .unset, .unset, .unset, .unset, .unset] [(.int ((p3 &&& (255 : Int32)).toUInt32.toUInt16.toUInt32.toInt32)), (.int (1 : Int32)), (.ref a268), (.ref a268)])) (fun _ kk => XS.i2c X277.here hx rfl (hb hby at_61) rfl kk) ?_
      rw [i2c_mask]
      obtain ⟨Ac283, Ar283, q283, Sz283, Nn283, Hs283, Gs283⟩ := F282
      obtain ⟨T283, h283, X283, e283, W283, st283⟩ := stC X277 hx hZ e277 Ar283 (j := (1 : Int32)) (x := (p3 &&& (255 : Int32))) (inb_of Sz283 ⟨by decide, by decide⟩) (g := (mkF m 62 #[.val (.int p0), .val (.int p1), .val (.int p2), .val (.int p3), .val (.int p4), .val (.int p5), .val (.int ((p0 &&& (2147483647 : Int32)) % (8 : Int32))), .val (.ref x7), .val (.int (0 : Int32)), .val (.int (0 : Int32)), .unset, .unset, .unset, .unset, .unset, .unset, .unset, .unset] [(.int (p3 &&& (255 : Int32))), (.int (1 : Int32)), (.ref a268), (.ref a268)])) rfl rfl (hb hby at_62)
      have F284 := Fr.snoc X283 F278 ge270
      have F285 := (Nat.le_trans F279 (Nat.le_of_eq (Wr.size W283).symm))
      have F286 := F280.wr W283 ge270
      have F287 := F281.wr W283 (Or.inr ng271)
      have F288 : Arv Z h283 a268 cA269 .char (2 : Int32) [(.int (p2 &&& (255 : Int32))), (.int (p3 &&& (255 : Int32)))] (.int 0) := by
        have q := Arv.set Ar283 q283 Sz283 Nn283 Hs283 Gs283 (fits_nar_char _) W283 1 rfl (Nat.le_of_ble_eq_true rfl)
        rw [own_n255] at q
        exact q
      refine own_step (T' := T283) (g' := (mkF m 63 #[.val (.int p0), .val (.int p1), .val (.int p2), .val (.int p3), .val (.int p4), .val (.int p5), .val (.int ((p0 &&& (2147483647 : Int32)) % (8 : Int32))), .val (.ref x7), .val (.int (0 : Int32)), .val (.int (0 : Int32)), .unset, .unset, .unset, .unset, .unset, .unset, .unset, .unset] [(.ref a268)])) (fun _ kk => st283 _ kk) ?_
      refine own_step (T' := T283) (g' := (mkF m 65 #[.val (.int p0), .val (.int p1), .val (.int p2), .val (.int p3), .val (.int p4), .val (.int p5), .val (.int ((p0 &&& (2147483647 : Int32)) % (8 : Int32))), .val (.ref x7), .val (.int (0 : Int32)), .val (.int (0 : Int32)), .val (.ref a268), .unset, .unset, .unset, .unset, .unset, .unset, .unset] [])) (fun _ kk => XS.astore X283.here hx rfl (hb hby at_63) rfl rfl (l' := #[.val (.int p0), .val (.int p1), .val (.int p2), .val (.int p3), .val (.int p4), .val (.int p5), .val (.int ((p0 &&& (2147483647 : Int32)) % (8 : Int32))), .val (.ref x7), .val (.int (0 : Int32)), .val (.int (0 : Int32)), .val (.ref a268), .unset, .unset, .unset, .unset, .unset, .unset, .unset]) rfl kk) ?_
      obtain ⟨T290, h290, X290, e290, E290, A290, D290, U290, st290⟩ := newO X283 hx hZ hown (w9 hw) (w10 hw) (w11 hw) e283 (g := (mkF m 65 #[.val (.int p0), .val (.int p1), .val (.int p2), .val (.int p3), .val (.int p4), .val (.int p5), .val (.int ((p0 &&& (2147483647 : Int32)) % (8 : Int32))), .val (.ref x7), .val (.int (0 : Int32)), .val (.int (0 : Int32)), .val (.ref a268), .unset, .unset, .unset, .unset, .unset, .unset, .unset] [])) rfl (hb hby at_65) (by decide) (by decide)
      obtain ⟨a289, g290⟩ : ∃ z, z = h283.size := ⟨_, rfl⟩
      rw [← g290] at A290 D290 U290 st290
      have ne291 : a268 ≠ a289 := Nat.ne_of_lt (by rw [g290]; exact F288.lt)
      have ge292 : Z.heap.size ≤ a289 := by rw [g290]; exact F286.2.1
      have ng293 : h0.size ≤ a289 := by rw [g290]; exact F287.1
      have F294 := F288.ext E290
      have F295 := Nat.le_trans F285 E290.1
      have F296 := F286.ext E290
      have F297 := F287.ext E290
      have F298 : own_Obj Z h290 a289 "java/lang/String" := own_Obj.new A290 U290
      refine own_step (T' := T290) (g' := (mkF m 68 #[.val (.int p0), .val (.int p1), .val (.int p2), .val (.int p3), .val (.int p4), .val (.int p5), .val (.int ((p0 &&& (2147483647 : Int32)) % (8 : Int32))), .val (.ref x7), .val (.int (0 : Int32)), .val (.int (0 : Int32)), .val (.ref a268), .unset, .unset, .unset, .unset, .unset, .unset, .unset] [(.ref a289)])) (fun _ kk => st290 _ kk) ?_
      refine own_step (T' := T290) (g' := (mkF m 69 #[.val (.int p0), .val (.int p1), .val (.int p2), .val (.int p3), .val (.int p4), .val (.int p5), .val (.int ((p0 &&& (2147483647 : Int32)) % (8 : Int32))), .val (.ref x7), .val (.int (0 : Int32)), .val (.int (0 : Int32)), .val (.ref a268), .unset, .unset, .unset, .unset, .unset, .unset, .unset] [(.ref a289), (.ref a289)])) (fun _ kk => XS.dup X290.here hx rfl (hb hby at_68) rfl rfl kk) ?_
      refine own_step (T' := T290) (g' := (mkF m 71 #[.val (.int p0), .val (.int p1), .val (.int p2), .val (.int p3), .val (.int p4), .val (.int p5), .val (.int ((p0 &&& (2147483647 : Int32)) % (8 : Int32))), .val (.ref x7), .val (.int (0 : Int32)), .val (.int (0 : Int32)), .val (.ref a268), .unset, .unset, .unset, .unset, .unset, .unset, .unset] [(.ref a268), (.ref a289), (.ref a289)])) (fun _ kk => XS.aload X290.here hx rfl (hb hby at_69) rfl rfl kk) ?_
      obtain ⟨u299, Fu299⟩ := F298.fld (w10 hw) (Or.inr (w37 hw) : Laid Z a0 "java/lang/String" "java/lang/String" "value" "[B")
      obtain ⟨y299, Fy299⟩ := F298.fld (w10 hw) (Or.inr (w35 hw) : Laid Z a0 "java/lang/String" "java/lang/String" "coder" "B")
      obtain ⟨T299, L299, _, h299, X299, e299, ⟨rfl, Nq299, Kq299, Eq299, Cq299, sb299, kb299, ga299, gb299, nb299, Vq299, Aq299⟩, st299⟩ := own_bcallC X290 hx hZ hown rfl (w12 hw) (w13 hw) (w14 hw) (by decide) (a := a289) (g := (mkF m 71 #[.val (.int p0), .val (.int p1), .val (.int p2), .val (.int p3), .val (.int p4), .val (.int p5), .val (.int ((p0 &&& (2147483647 : Int32)) % (8 : Int32))), .val (.ref x7), .val (.int (0 : Int32)), .val (.int (0 : Int32)), .val (.ref a268), .unset, .unset, .unset, .unset, .unset, .unset, .unset] [(.ref a268), (.ref a289), (.ref a289)])) rfl (by rw [hml]; rfl) (argsL := [.ref a268]) (rest := [(.ref a289)]) (StrChars.Road.backV (W := 1) hZ (own_hws hw) (kI := 4) (w10 hw) (cs := [p2 &&& (255 : Int32), p3 &&& (255 : Int32)]) (n := 2) (n0 := Z.heap.size) ge292 (Nat.le_trans F296.2.1 (Nat.le_refl _)) F298.1 Fu299 Fy299 F294 (SC.ext F296.2) hzc rfl rfl (by decide) (by decide) own_hp2 rfl (by decide) (by decide)) e290 pd___C_V rfl rfl (by show 2 * 0 + _ ≤ _; exact Nat.le_of_eq rfl) (hb hby at_71) (by decide) (by decide)
      have F300 := Fr.app F284 Nq299
      have F301 := F294.keep Kq299 (ninS ne291 nin0)
      have F302 := F298.keep Kq299
      have F303 := Nat.le_trans F295 Kq299.1
      have F304 := F296.keep Kq299 (allS ge292 all0)
      have F305 := F297.trans Kq299 (allS (Or.inr ng293) all0)
      refine own_step (T' := T299) (g' := (mkF m 74 #[.val (.int p0), .val (.int p1), .val (.int p2), .val (.int p3), .val (.int p4), .val (.int p5), .val (.int ((p0 &&& (2147483647 : Int32)) % (8 : Int32))), .val (.ref x7), .val (.int (0 : Int32)), .val (.int (0 : Int32)), .val (.ref a268), .unset, .unset, .unset, .unset, .unset, .unset, .unset] [(.ref a289)])) (fun _ kk => st299 _ kk) ?_
      refine own_step (T' := T299) (g' := (mkF m 76 #[.val (.int p0), .val (.int p1), .val (.int p2), .val (.int p3), .val (.int p4), .val (.int p5), .val (.int ((p0 &&& (2147483647 : Int32)) % (8 : Int32))), .val (.ref x7), .val (.int (0 : Int32)), .val (.int (0 : Int32)), .val (.ref a268), .val (.ref a289), .unset, .unset, .unset, .unset, .unset, .unset] [])) (fun _ kk => XS.astore X299.here hx rfl (hb hby at_74) rfl rfl (l' := #[.val (.int p0), .val (.int p1), .val (.int p2), .val (.int p3), .val (.int p4), .val (.int p5), .val (.int ((p0 &&& (2147483647 : Int32)) % (8 : Int32))), .val (.ref x7), .val (.int (0 : Int32)), .val (.int (0 : Int32)), .val (.ref a268), .val (.ref a289), .unset, .unset, .unset, .unset, .unset, .unset]) rfl kk) ?_
      refine own_step (T' := T299) (g' := (mkF m 78 #[.val (.int p0), .val (.int p1), .val (.int p2), .val (.int p3), .val (.int p4), .val (.int p5), .val (.int ((p0 &&& (2147483647 : Int32)) % (8 : Int32))), .val (.ref x7), .val (.int (0 : Int32)), .val (.int (0 : Int32)), .val (.ref a268), .val (.ref a289), .unset, .unset, .unset, .unset, .unset, .unset] [(.int (0 : Int32))])) (fun _ kk => XS.iload X299.here hx rfl (hb hby at_76) rfl kk) ?_
      refine own_step (T' := T299) (g' := (mkF m 85 #[.val (.int p0), .val (.int p1), .val (.int p2), .val (.int p3), .val (.int p4), .val (.int p5), .val (.int ((p0 &&& (2147483647 : Int32)) % (8 : Int32))), .val (.ref x7), .val (.int (0 : Int32)), .val (.int (0 : Int32)), .val (.ref a268), .val (.ref a289), .unset, .unset, .unset, .unset, .unset, .unset] [])) (fun _ kk => XS.ifYes X299.here hx rfl (pc0 := 78) (pc' := 85) rfl (hb hby at_78) rfl ((if0 _ _).trans (teq rfl).1) (by decide) (by decide) kk) ?_
      refine own_step (T' := T299) (g' := (mkF m 87 #[.val (.int p0), .val (.int p1), .val (.int p2), .val (.int p3), .val (.int p4), .val (.int p5), .val (.int ((p0 &&& (2147483647 : Int32)) % (8 : Int32))), .val (.ref x7), .val (.int (0 : Int32)), .val (.int (0 : Int32)), .val (.ref a268), .val (.ref a289), .unset, .unset, .unset, .unset, .unset, .unset] [(.int (0 : Int32))])) (fun _ kk => XS.iload X299.here hx rfl (hb hby at_85) rfl kk) ?_
      refine own_step (T' := T299) (g' := (mkF m 95 #[.val (.int p0), .val (.int p1), .val (.int p2), .val (.int p3), .val (.int p4), .val (.int p5), .val (.int ((p0 &&& (2147483647 : Int32)) % (8 : Int32))), .val (.ref x7), .val (.int (0 : Int32)), .val (.int (0 : Int32)), .val (.ref a268), .val (.ref a289), .unset, .unset, .unset, .unset, .unset, .unset] [])) (fun _ kk => XS.ifYes X299.here hx rfl (pc0 := 87) (pc' := 95) rfl (hb hby at_87) rfl ((if0 _ _).trans (teq rfl).1) (by decide) (by decide) kk) ?_
      refine own_step (T' := T299) (g' := (mkF m 97 #[.val (.int p0), .val (.int p1), .val (.int p2), .val (.int p3), .val (.int p4), .val (.int p5), .val (.int ((p0 &&& (2147483647 : Int32)) % (8 : Int32))), .val (.ref x7), .val (.int (0 : Int32)), .val (.int (0 : Int32)), .val (.ref a268), .val (.ref a289), .unset, .unset, .unset, .unset, .unset, .unset] [(.ref a289)])) (fun _ kk => XS.aload X299.here hx rfl (hb hby at_95) rfl rfl kk) ?_
      refine own_step (T' := T299) (g' := (mkF m 99 #[.val (.int p0), .val (.int p1), .val (.int p2), .val (.int p3), .val (.int p4), .val (.int p5), .val (.int ((p0 &&& (2147483647 : Int32)) % (8 : Int32))), .val (.ref x7), .val (.int (0 : Int32)), .val (.int (0 : Int32)), .val (.ref a268), .val (.ref a289), .val (.ref a289), .unset, .unset, .unset, .unset, .unset] [])) (fun _ kk => XS.astore X299.here hx rfl (hb hby at_97) rfl rfl (l' := #[.val (.int p0), .val (.int p1), .val (.int p2), .val (.int p3), .val (.int p4), .val (.int p5), .val (.int ((p0 &&& (2147483647 : Int32)) % (8 : Int32))), .val (.ref x7), .val (.int (0 : Int32)), .val (.int (0 : Int32)), .val (.ref a268), .val (.ref a289), .val (.ref a289), .unset, .unset, .unset, .unset, .unset]) rfl kk) ?_
      refine own_step (T' := T299) (g' := (mkF m 101 #[.val (.int p0), .val (.int p1), .val (.int p2), .val (.int p3), .val (.int p4), .val (.int p5), .val (.int ((p0 &&& (2147483647 : Int32)) % (8 : Int32))), .val (.ref x7), .val (.int (0 : Int32)), .val (.int (0 : Int32)), .val (.ref a268), .val (.ref a289), .val (.ref a289), .unset, .unset, .unset, .unset, .unset] [(.int (0 : Int32))])) (fun _ kk => XS.iload X299.here hx rfl (hb hby at_99) rfl kk) ?_
      refine own_step (T' := T299) (g' := (mkF m 108 #[.val (.int p0), .val (.int p1), .val (.int p2), .val (.int p3), .val (.int p4), .val (.int p5), .val (.int ((p0 &&& (2147483647 : Int32)) % (8 : Int32))), .val (.ref x7), .val (.int (0 : Int32)), .val (.int (0 : Int32)), .val (.ref a268), .val (.ref a289), .val (.ref a289), .unset, .unset, .unset, .unset, .unset] [])) (fun _ kk => XS.ifYes X299.here hx rfl (pc0 := 101) (pc' := 108) rfl (hb hby at_101) rfl ((if0 _ _).trans (teq rfl).1) (by decide) (by decide) kk) ?_
      refine own_step (T' := T299) (g' := (mkF m 109 #[.val (.int p0), .val (.int p1), .val (.int p2), .val (.int p3), .val (.int p4), .val (.int p5), .val (.int ((p0 &&& (2147483647 : Int32)) % (8 : Int32))), .val (.ref x7), .val (.int (0 : Int32)), .val (.int (0 : Int32)), .val (.ref a268), .val (.ref a289), .val (.ref a289), .unset, .unset, .unset, .unset, .unset] [(.int p3)])) (fun _ kk => XS.iloadN X299.here hx rfl (hb hby at_108) rfl kk) ?_
      refine own_step (T' := T299) (g' := (mkF m 112 #[.val (.int p0), .val (.int p1), .val (.int p2), .val (.int p3), .val (.int p4), .val (.int p5), .val (.int ((p0 &&& (2147483647 : Int32)) % (8 : Int32))), .val (.ref x7), .val (.int (0 : Int32)), .val (.int (0 : Int32)), .val (.ref a268), .val (.ref a289), .val (.ref a289), .unset, .unset, .unset, .unset, .unset] [(.int (255 : Int32)), (.int p3)])) (fun _ kk => XS.sipush X299.here hx rfl (hb hby at_109) kk) ?_
      refine own_step (T' := T299) (g' := (mkF m 113 #[.val (.int p0), .val (.int p1), .val (.int p2), .val (.int p3), .val (.int p4), .val (.int p5), .val (.int ((p0 &&& (2147483647 : Int32)) % (8 : Int32))), .val (.ref x7), .val (.int (0 : Int32)), .val (.int (0 : Int32)), .val (.ref a268), .val (.ref a289), .val (.ref a289), .unset, .unset, .unset, .unset, .unset] [(.int (p3 &&& (255 : Int32)))])) (fun _ kk => XS.iand X299.here hx rfl (hb hby at_112) rfl kk) ?_
      refine own_step (T' := T299) (g' := (mkF m 114 #[.val (.int p0), .val (.int p1), .val (.int p2), .val (.int p3), .val (.int p4), .val (.int p5), .val (.int ((p0 &&& (2147483647 : Int32)) % (8 : Int32))), .val (.ref x7), .val (.int (0 : Int32)), .val (.int (0 : Int32)), .val (.ref a268), .val (.ref a289), .val (.ref a289), .unset, .unset, .unset, .unset, .unset] [(.int ((p3 &&& (255 : Int32)).toUInt32.toUInt16.toUInt32.toInt32))])) (fun _ kk => XS.i2c X299.here hx rfl (hb hby at_113) rfl kk) ?_
      rw [i2c_mask]
      obtain ⟨T306, L306, _, h306, X306, e306, ⟨fv, rfl, Nv, Kv⟩, st306⟩ := own_callS X299 hx hZ hown (w90 hw) (w91 hw) (w92 hw) (w11 hw) (by decide) (g := (mkF m 114 #[.val (.int p0), .val (.int p1), .val (.int p2), .val (.int p3), .val (.int p4), .val (.int p5), .val (.int ((p0 &&& (2147483647 : Int32)) % (8 : Int32))), .val (.ref x7), .val (.int (0 : Int32)), .val (.int (0 : Int32)), .val (.ref a268), .val (.ref a289), .val (.ref a289), .unset, .unset, .unset, .unset, .unset] [(.int (p3 &&& (255 : Int32)))])) rfl (by rw [hml]; rfl) (argsL := [(.int (p3 &&& (255 : Int32)))]) (rest := []) (rm_vo l Z a0 hw (p3 &&& (255 : Int32)) zc _ F304 SC hzc (own_m255 p3).2) e299 pd__C_Ljava_lang_String_ rfl rfl (W := 0) (by show 2 * 0 + _ ≤ _; exact Nat.le_of_eq rfl) (hb hby at_114) (by decide) (by decide) (by decide) (by decide)
      have F307 := Fr.app F300 Nv
      have F308 := Nat.le_trans F303 Kv.1
      have F309 := F304.keep Kv all0
      have F310 := F305.trans Kv all0
      refine own_step (T' := T306) (g' := (mkF m 117 #[.val (.int p0), .val (.int p1), .val (.int p2), .val (.int p3), .val (.int p4), .val (.int p5), .val (.int ((p0 &&& (2147483647 : Int32)) % (8 : Int32))), .val (.ref x7), .val (.int (0 : Int32)), .val (.int (0 : Int32)), .val (.ref a268), .val (.ref a289), .val (.ref a289), .unset, .unset, .unset, .unset, .unset] [(.ref fv)])) (fun _ kk => st306 _ kk) ?_
      refine own_step (T' := T306) (g' := (mkF m 119 #[.val (.int p0), .val (.int p1), .val (.int p2), .val (.int p3), .val (.int p4), .val (.int p5), .val (.int ((p0 &&& (2147483647 : Int32)) % (8 : Int32))), .val (.ref x7), .val (.int (0 : Int32)), .val (.int (0 : Int32)), .val (.ref a268), .val (.ref a289), .val (.ref a289), .val (.ref fv), .unset, .unset, .unset, .unset] [])) (fun _ kk => XS.astore X306.here hx rfl (hb hby at_117) rfl rfl (l' := #[.val (.int p0), .val (.int p1), .val (.int p2), .val (.int p3), .val (.int p4), .val (.int p5), .val (.int ((p0 &&& (2147483647 : Int32)) % (8 : Int32))), .val (.ref x7), .val (.int (0 : Int32)), .val (.int (0 : Int32)), .val (.ref a268), .val (.ref a289), .val (.ref a289), .val (.ref fv), .unset, .unset, .unset, .unset]) rfl kk) ?_
      refine own_step (T' := T306) (g' := (mkF m 120 #[.val (.int p0), .val (.int p1), .val (.int p2), .val (.int p3), .val (.int p4), .val (.int p5), .val (.int ((p0 &&& (2147483647 : Int32)) % (8 : Int32))), .val (.ref x7), .val (.int (0 : Int32)), .val (.int (0 : Int32)), .val (.ref a268), .val (.ref a289), .val (.ref a289), .val (.ref fv), .unset, .unset, .unset, .unset] [(.int p1)])) (fun _ kk => XS.iloadN X306.here hx rfl (hb hby at_119) rfl kk) ?_
      refine own_step (T' := T306) (g' := (mkF m 121 #[.val (.int p0), .val (.int p1), .val (.int p2), .val (.int p3), .val (.int p4), .val (.int p5), .val (.int ((p0 &&& (2147483647 : Int32)) % (8 : Int32))), .val (.ref x7), .val (.int (0 : Int32)), .val (.int (0 : Int32)), .val (.ref a268), .val (.ref a289), .val (.ref a289), .val (.ref fv), .unset, .unset, .unset, .unset] [(.int (2 : Int32)), (.int p1)])) (fun _ kk => XS.iconst X306.here hx rfl (hb hby at_120) kk) ?_
      refine own_step (T' := T306) (g' := (mkF m 122 #[.val (.int p0), .val (.int p1), .val (.int p2), .val (.int p3), .val (.int p4), .val (.int p5), .val (.int ((p0 &&& (2147483647 : Int32)) % (8 : Int32))), .val (.ref x7), .val (.int (0 : Int32)), .val (.int (0 : Int32)), .val (.ref a268), .val (.ref a289), .val (.ref a289), .val (.ref fv), .unset, .unset, .unset, .unset] [(.int (p1 &&& (2 : Int32)))])) (fun _ kk => XS.iand X306.here hx rfl (hb hby at_121) rfl kk) ?_
      by_cases c311 : (p1 &&& (2 : Int32)) = (0 : Int32)
      · refine own_step (T' := T306) (g' := (mkF m 129 #[.val (.int p0), .val (.int p1), .val (.int p2), .val (.int p3), .val (.int p4), .val (.int p5), .val (.int ((p0 &&& (2147483647 : Int32)) % (8 : Int32))), .val (.ref x7), .val (.int (0 : Int32)), .val (.int (0 : Int32)), .val (.ref a268), .val (.ref a289), .val (.ref a289), .val (.ref fv), .unset, .unset, .unset, .unset] [])) (fun _ kk => XS.ifYes X306.here hx rfl (pc0 := 122) (pc' := 129) rfl (hb hby at_122) rfl ((if0 _ _).trans (teq c311).1) (by decide) (by decide) kk) ?_
        refine own_step (T' := T306) (g' := (mkF m 131 #[.val (.int p0), .val (.int p1), .val (.int p2), .val (.int p3), .val (.int p4), .val (.int p5), .val (.int ((p0 &&& (2147483647 : Int32)) % (8 : Int32))), .val (.ref x7), .val (.int (0 : Int32)), .val (.int (0 : Int32)), .val (.ref a268), .val (.ref a289), .val (.ref a289), .val (.ref fv), .unset, .unset, .unset, .unset] [(.int p4)])) (fun _ kk => XS.iload X306.here hx rfl (hb hby at_129) rfl kk) ?_
        refine own_step (T' := T306) (g' := (mkF m 132 #[.val (.int p0), .val (.int p1), .val (.int p2), .val (.int p3), .val (.int p4), .val (.int p5), .val (.int ((p0 &&& (2147483647 : Int32)) % (8 : Int32))), .val (.ref x7), .val (.int (0 : Int32)), .val (.int (0 : Int32)), .val (.ref a268), .val (.ref a289), .val (.ref a289), .val (.ref fv), .unset, .unset, .unset, .unset] [(.long (p4.toInt64))])) (fun _ kk => XS.i2l X306.here hx rfl (hb hby at_131) rfl kk) ?_
        obtain ⟨T312, L312, _, h312, X312, e312, ⟨uv, rfl, ru, cu, Nl, Kl⟩, st312⟩ := own_callS X306 hx hZ hown (w107 hw) (w108 hw) (w110 hw) (w109 hw) (by decide) (g := (mkF m 132 #[.val (.int p0), .val (.int p1), .val (.int p2), .val (.int p3), .val (.int p4), .val (.int p5), .val (.int ((p0 &&& (2147483647 : Int32)) % (8 : Int32))), .val (.ref x7), .val (.int (0 : Int32)), .val (.int (0 : Int32)), .val (.ref a268), .val (.ref a289), .val (.ref a289), .val (.ref fv), .unset, .unset, .unset, .unset] [(.long (p4.toInt64))])) rfl (by rw [hml]; rfl) (argsL := [(.long (p4.toInt64))]) (rest := []) (rm_lv l Z a0 hw (p4.toInt64) ca cl _ F309 SL AL hin hcache) e306 pd__J_Ljava_lang_Long_ rfl rfl (W := 0) (by show 2 * 0 + _ ≤ _; exact Nat.le_of_eq rfl) (hb hby at_132) (by decide) (by decide) (by decide) (by decide)
        have F313 := Fr.app F307 Nl
        have F314 := Nat.le_trans F308 Kl.1
        have F315 := F309.keep Kl all0
        have F316 := F310.trans Kl all0
        refine own_step (T' := T312) (g' := (mkF m 135 #[.val (.int p0), .val (.int p1), .val (.int p2), .val (.int p3), .val (.int p4), .val (.int p5), .val (.int ((p0 &&& (2147483647 : Int32)) % (8 : Int32))), .val (.ref x7), .val (.int (0 : Int32)), .val (.int (0 : Int32)), .val (.ref a268), .val (.ref a289), .val (.ref a289), .val (.ref fv), .unset, .unset, .unset, .unset] [uv])) (fun _ kk => st312 _ kk) ?_
        refine own_step (T' := T312) (g' := (mkF m 137 #[.val (.int p0), .val (.int p1), .val (.int p2), .val (.int p3), .val (.int p4), .val (.int p5), .val (.int ((p0 &&& (2147483647 : Int32)) % (8 : Int32))), .val (.ref x7), .val (.int (0 : Int32)), .val (.int (0 : Int32)), .val (.ref a268), .val (.ref a289), .val (.ref a289), .val (.ref fv), .val uv, .unset, .unset, .unset] [])) (fun _ kk => XS.astore X312.here hx rfl (hb hby at_135) rfl ru (l' := #[.val (.int p0), .val (.int p1), .val (.int p2), .val (.int p3), .val (.int p4), .val (.int p5), .val (.int ((p0 &&& (2147483647 : Int32)) % (8 : Int32))), .val (.ref x7), .val (.int (0 : Int32)), .val (.int (0 : Int32)), .val (.ref a268), .val (.ref a289), .val (.ref a289), .val (.ref fv), .val uv, .unset, .unset, .unset]) (XS.store1 (o := .unset) rfl (Or.inl rfl) cu) kk) ?_
        exact seg _ _ _ _ _ _ _ _ _ _ _ _ _ _ (X312.mono (by decide) (by decide)) e312 hZ hown hS0 F314 F313 F315 PX rfl rfl rfl rfl ru cu (Or.inr ⟨by simp, rfl⟩)
      · refine own_step (T' := T306) (g' := (mkF m 125 #[.val (.int p0), .val (.int p1), .val (.int p2), .val (.int p3), .val (.int p4), .val (.int p5), .val (.int ((p0 &&& (2147483647 : Int32)) % (8 : Int32))), .val (.ref x7), .val (.int (0 : Int32)), .val (.int (0 : Int32)), .val (.ref a268), .val (.ref a289), .val (.ref a289), .val (.ref fv), .unset, .unset, .unset, .unset] [])) (fun _ kk => XS.ifNo X306.here hx rfl (hb hby at_122) rfl ((if0 _ _).trans (feq c311).1) kk) ?_
        refine own_step (T' := T306) (g' := (mkF m 126 #[.val (.int p0), .val (.int p1), .val (.int p2), .val (.int p3), .val (.int p4), .val (.int p5), .val (.int ((p0 &&& (2147483647 : Int32)) % (8 : Int32))), .val (.ref x7), .val (.int (0 : Int32)), .val (.int (0 : Int32)), .val (.ref a268), .val (.ref a289), .val (.ref a289), .val (.ref fv), .unset, .unset, .unset, .unset] [.null])) (fun _ kk => XS.aconstNull X306.here hx rfl (hb hby at_125) kk) ?_
        refine own_step (T' := T306) (g' := (mkF m 135 #[.val (.int p0), .val (.int p1), .val (.int p2), .val (.int p3), .val (.int p4), .val (.int p5), .val (.int ((p0 &&& (2147483647 : Int32)) % (8 : Int32))), .val (.ref x7), .val (.int (0 : Int32)), .val (.int (0 : Int32)), .val (.ref a268), .val (.ref a289), .val (.ref a289), .val (.ref fv), .unset, .unset, .unset, .unset] [.null])) (fun _ kk => XS.goto X306.here hx rfl (pc0 := 126) (pc' := 135) rfl (hb hby at_126) (by decide) (by decide) kk) ?_
        refine own_step (T' := T306) (g' := (mkF m 137 #[.val (.int p0), .val (.int p1), .val (.int p2), .val (.int p3), .val (.int p4), .val (.int p5), .val (.int ((p0 &&& (2147483647 : Int32)) % (8 : Int32))), .val (.ref x7), .val (.int (0 : Int32)), .val (.int (0 : Int32)), .val (.ref a268), .val (.ref a289), .val (.ref a289), .val (.ref fv), .val .null, .unset, .unset, .unset] [])) (fun _ kk => XS.astore X306.here hx rfl (hb hby at_135) rfl rfl (l' := #[.val (.int p0), .val (.int p1), .val (.int p2), .val (.int p3), .val (.int p4), .val (.int p5), .val (.int ((p0 &&& (2147483647 : Int32)) % (8 : Int32))), .val (.ref x7), .val (.int (0 : Int32)), .val (.int (0 : Int32)), .val (.ref a268), .val (.ref a289), .val (.ref a289), .val (.ref fv), .val .null, .unset, .unset, .unset]) rfl kk) ?_
        exact seg _ _ _ _ _ _ _ _ _ _ _ _ _ _ (X306.mono (by decide) (by decide)) e306 hZ hown hS0 F308 F307 F309 PX rfl rfl rfl rfl rfl rfl (Or.inr ⟨by simp, rfl⟩)
    · refine own_step (T' := T263) (g' := (mkF m 35 #[.val (.int p0), .val (.int p1), .val (.int p2), .val (.int p3), .val (.int p4), .val (.int p5), .val (.int ((p0 &&& (2147483647 : Int32)) % (8 : Int32))), .val (.ref x7), .val (.int (0 : Int32)), .unset, .unset, .unset, .unset, .unset, .unset, .unset, .unset, .unset] [])) (fun _ kk => XS.ifNo X263.here hx rfl (hb hby at_32) rfl ((if0 _ _).trans (feq c267).1) kk) ?_
      refine own_step (T' := T263) (g' := (mkF m 36 #[.val (.int p0), .val (.int p1), .val (.int p2), .val (.int p3), .val (.int p4), .val (.int p5), .val (.int ((p0 &&& (2147483647 : Int32)) % (8 : Int32))), .val (.ref x7), .val (.int (0 : Int32)), .unset, .unset, .unset, .unset, .unset, .unset, .unset, .unset, .unset] [(.int (1 : Int32))])) (fun _ kk => XS.iconst X263.here hx rfl (hb hby at_35) kk) ?_
      refine own_step (T' := T263) (g' := (mkF m 40 #[.val (.int p0), .val (.int p1), .val (.int p2), .val (.int p3), .val (.int p4), .val (.int p5), .val (.int ((p0 &&& (2147483647 : Int32)) % (8 : Int32))), .val (.ref x7), .val (.int (0 : Int32)), .unset, .unset, .unset, .unset, .unset, .unset, .unset, .unset, .unset] [(.int (1 : Int32))])) (fun _ kk => XS.goto X263.here hx rfl (pc0 := 36) (pc' := 40) rfl (hb hby at_36) (by decide) (by decide) kk) ?_
      refine own_step (T' := T263) (g' := (mkF m 42 #[.val (.int p0), .val (.int p1), .val (.int p2), .val (.int p3), .val (.int p4), .val (.int p5), .val (.int ((p0 &&& (2147483647 : Int32)) % (8 : Int32))), .val (.ref x7), .val (.int (0 : Int32)), .val (.int (1 : Int32)), .unset, .unset, .unset, .unset, .unset, .unset, .unset, .unset] [])) (fun _ kk => XS.istore X263.here hx rfl (hb hby at_40) rfl (l' := #[.val (.int p0), .val (.int p1), .val (.int p2), .val (.int p3), .val (.int p4), .val (.int p5), .val (.int ((p0 &&& (2147483647 : Int32)) % (8 : Int32))), .val (.ref x7), .val (.int (0 : Int32)), .val (.int (1 : Int32)), .unset, .unset, .unset, .unset, .unset, .unset, .unset, .unset]) rfl kk) ?_
      refine own_step (T' := T263) (g' := (mkF m 43 #[.val (.int p0), .val (.int p1), .val (.int p2), .val (.int p3), .val (.int p4), .val (.int p5), .val (.int ((p0 &&& (2147483647 : Int32)) % (8 : Int32))), .val (.ref x7), .val (.int (0 : Int32)), .val (.int (1 : Int32)), .unset, .unset, .unset, .unset, .unset, .unset, .unset, .unset] [(.int (2 : Int32))])) (fun _ kk => XS.iconst X263.here hx rfl (hb hby at_42) kk) ?_
      obtain ⟨T318, h318, cA318, X318, e318, E318, A318, st318⟩ := newP X263 hx hZ (aty := .char) (w8 hw) F265 (g := (mkF m 43 #[.val (.int p0), .val (.int p1), .val (.int p2), .val (.int p3), .val (.int p4), .val (.int p5), .val (.int ((p0 &&& (2147483647 : Int32)) % (8 : Int32))), .val (.ref x7), .val (.int (0 : Int32)), .val (.int (1 : Int32)), .unset, .unset, .unset, .unset, .unset, .unset, .unset, .unset] [(.int (2 : Int32))])) rfl (hb hby at_43) rfl (by decide) (cap := 2) (by decide) (by decide) (by decide) (by decide)
      obtain ⟨a317, g318⟩ : ∃ z, z = h0.size := ⟨_, rfl⟩
      rw [← g318] at A318 st318
      have ge319 : Z.heap.size ≤ a317 := by rw [g318]; exact O0.2.1
      have ng320 : h0.size ≤ a317 := by rw [g318]; exact F217.1
      have F321 := Nat.le_trans (Nat.zero_le _) E318.1
      have F322 := O0.ext E318
      have F323 := F217.ext E318
      have F324 : Arv Z h318 a317 cA318 .char (2 : Int32) [] (.int 0) := Arv.new A318 (by decide)
      refine own_step (T' := T318) (g' := (mkF m 45 #[.val (.int p0), .val (.int p1), .val (.int p2), .val (.int p3), .val (.int p4), .val (.int p5), .val (.int ((p0 &&& (2147483647 : Int32)) % (8 : Int32))), .val (.ref x7), .val (.int (0 : Int32)), .val (.int (1 : Int32)), .unset, .unset, .unset, .unset, .unset, .unset, .unset, .unset] [(.ref a317)])) (fun _ kk => st318 _ kk) ?_
      have F325 : Arv Z h318 a317 cA318 .char (2 : Int32) [(.int 0), (.int 0)] (.int 0) := Arv.pad F324 (pad_rep [] (.int 0) 2)
      refine own_step (T' := T318) (g' := (mkF m 46 #[.val (.int p0), .val (.int p1), .val (.int p2), .val (.int p3), .val (.int p4), .val (.int p5), .val (.int ((p0 &&& (2147483647 : Int32)) % (8 : Int32))), .val (.ref x7), .val (.int (0 : Int32)), .val (.int (1 : Int32)), .unset, .unset, .unset, .unset, .unset, .unset, .unset, .unset] [(.ref a317), (.ref a317)])) (fun _ kk => XS.dup X318.here hx rfl (hb hby at_45) rfl rfl kk) ?_
      refine own_step (T' := T318) (g' := (mkF m 47 #[.val (.int p0), .val (.int p1), .val (.int p2), .val (.int p3), .val (.int p4), .val (.int p5), .val (.int ((p0 &&& (2147483647 : Int32)) % (8 : Int32))), .val (.ref x7), .val (.int (0 : Int32)), .val (.int (1 : Int32)), .unset, .unset, .unset, .unset, .unset, .unset, .unset, .unset] [(.int (0 : Int32)), (.ref a317), (.ref a317)])) (fun _ kk => XS.iconst X318.here hx rfl (hb hby at_46) kk) ?_
      refine own_step (T' := T318) (g' := (mkF m 48 #[.val (.int p0), .val (.int p1), .val (.int p2), .val (.int p3), .val (.int p4), .val (.int p5), .val (.int ((p0 &&& (2147483647 : Int32)) % (8 : Int32))), .val (.ref x7), .val (.int (0 : Int32)), .val (.int (1 : Int32)), .unset, .unset, .unset, .unset, .unset, .unset, .unset, .unset] [(.int p2), (.int (0 : Int32)), (.ref a317), (.ref a317)])) (fun _ kk => XS.iloadN X318.here hx rfl (hb hby at_47) rfl kk) ?_
      refine own_step (T' := T318) (g' := (mkF m 51 #[.val (.int p0), .val (.int p1), .val (.int p2), .val (.int p3), .val (.int p4), .val (.int p5), .val (.int ((p0 &&& (2147483647 : Int32)) % (8 : Int32))), .val (.ref x7), .val (.int (0 : Int32)), .val (.int (1 : Int32)), .unset, .unset, .unset, .unset, .unset, .unset, .unset, .unset] [(.int (255 : Int32)), (.int p2), (.int (0 : Int32)), (.ref a317), (.ref a317)])) (fun _ kk => XS.sipush X318.here hx rfl (hb hby at_48) kk) ?_
      refine own_step (T' := T318) (g' := (mkF m 52 #[.val (.int p0), .val (.int p1), .val (.int p2), .val (.int p3), .val (.int p4), .val (.int p5), .val (.int ((p0 &&& (2147483647 : Int32)) % (8 : Int32))), .val (.ref x7), .val (.int (0 : Int32)), .val (.int (1 : Int32)), .unset, .unset, .unset, .unset, .unset, .unset, .unset, .unset] [(.int (p2 &&& (255 : Int32))), (.int (0 : Int32)), (.ref a317), (.ref a317)])) (fun _ kk => XS.iand X318.here hx rfl (hb hby at_51) rfl kk) ?_
      refine own_step (T' := T318) (g' := (mkF m 53 #[.val (.int p0), .val (.int p1), .val (.int p2), .val (.int p3), .val (.int p4), .val (.int p5), .val (.int ((p0 &&& (2147483647 : Int32)) % (8 : Int32))), .val (.ref x7), .val (.int (0 : Int32)), .val (.int (1 : Int32)), .unset, .unset, .unset, .unset, .unset, .unset, .unset, .unset] [(.int ((p2 &&& (255 : Int32)).toUInt32.toUInt16.toUInt32.toInt32)), (.int (0 : Int32)), (.ref a317), (.ref a317)])) (fun _ kk => XS.i2c X318.here hx rfl (hb hby at_52) rfl kk) ?_
      rw [i2c_mask]
      obtain ⟨Ac326, Ar326, q326, Sz326, Nn326, Hs326, Gs326⟩ := F325
      obtain ⟨T326, h326, X326, e326, W326, st326⟩ := stC X318 hx hZ e318 Ar326 (j := (0 : Int32)) (x := (p2 &&& (255 : Int32))) (inb_of Sz326 ⟨by decide, by decide⟩) (g := (mkF m 53 #[.val (.int p0), .val (.int p1), .val (.int p2), .val (.int p3), .val (.int p4), .val (.int p5), .val (.int ((p0 &&& (2147483647 : Int32)) % (8 : Int32))), .val (.ref x7), .val (.int (0 : Int32)), .val (.int (1 : Int32)), .unset, .unset, .unset, .unset, .unset, .unset, .unset, .unset] [(.int (p2 &&& (255 : Int32))), (.int (0 : Int32)), (.ref a317), (.ref a317)])) rfl rfl (hb hby at_53)
      have F327 := Fr.snoc X326 F264 ge319
      have F328 := (Nat.le_trans F321 (Nat.le_of_eq (Wr.size W326).symm))
      have F329 := F322.wr W326 ge319
      have F330 := F323.wr W326 (Or.inr ng320)
      have F331 : Arv Z h326 a317 cA318 .char (2 : Int32) [(.int (p2 &&& (255 : Int32))), (.int 0)] (.int 0) := by
        have q := Arv.set Ar326 q326 Sz326 Nn326 Hs326 Gs326 (fits_nar_char _) W326 0 rfl (Nat.le_of_ble_eq_true rfl)
        rw [own_n255] at q
        exact q
      refine own_step (T' := T326) (g' := (mkF m 54 #[.val (.int p0), .val (.int p1), .val (.int p2), .val (.int p3), .val (.int p4), .val (.int p5), .val (.int ((p0 &&& (2147483647 : Int32)) % (8 : Int32))), .val (.ref x7), .val (.int (0 : Int32)), .val (.int (1 : Int32)), .unset, .unset, .unset, .unset, .unset, .unset, .unset, .unset] [(.ref a317)])) (fun _ kk => st326 _ kk) ?_
      refine own_step (T' := T326) (g' := (mkF m 55 #[.val (.int p0), .val (.int p1), .val (.int p2), .val (.int p3), .val (.int p4), .val (.int p5), .val (.int ((p0 &&& (2147483647 : Int32)) % (8 : Int32))), .val (.ref x7), .val (.int (0 : Int32)), .val (.int (1 : Int32)), .unset, .unset, .unset, .unset, .unset, .unset, .unset, .unset] [(.ref a317), (.ref a317)])) (fun _ kk => XS.dup X326.here hx rfl (hb hby at_54) rfl rfl kk) ?_
      refine own_step (T' := T326) (g' := (mkF m 56 #[.val (.int p0), .val (.int p1), .val (.int p2), .val (.int p3), .val (.int p4), .val (.int p5), .val (.int ((p0 &&& (2147483647 : Int32)) % (8 : Int32))), .val (.ref x7), .val (.int (0 : Int32)), .val (.int (1 : Int32)), .unset, .unset, .unset, .unset, .unset, .unset, .unset, .unset] [(.int (1 : Int32)), (.ref a317), (.ref a317)])) (fun _ kk => XS.iconst X326.here hx rfl (hb hby at_55) kk) ?_
      refine own_step (T' := T326) (g' := (mkF m 57 #[.val (.int p0), .val (.int p1), .val (.int p2), .val (.int p3), .val (.int p4), .val (.int p5), .val (.int ((p0 &&& (2147483647 : Int32)) % (8 : Int32))), .val (.ref x7), .val (.int (0 : Int32)), .val (.int (1 : Int32)), .unset, .unset, .unset, .unset, .unset, .unset, .unset, .unset] [(.int p3), (.int (1 : Int32)), (.ref a317), (.ref a317)])) (fun _ kk => XS.iloadN X326.here hx rfl (hb hby at_56) rfl kk) ?_
      refine own_step (T' := T326) (g' := (mkF m 60 #[.val (.int p0), .val (.int p1), .val (.int p2), .val (.int p3), .val (.int p4), .val (.int p5), .val (.int ((p0 &&& (2147483647 : Int32)) % (8 : Int32))), .val (.ref x7), .val (.int (0 : Int32)), .val (.int (1 : Int32)), .unset, .unset, .unset, .unset, .unset, .unset, .unset, .unset] [(.int (255 : Int32)), (.int p3), (.int (1 : Int32)), (.ref a317), (.ref a317)])) (fun _ kk => XS.sipush X326.here hx rfl (hb hby at_57) kk) ?_
      refine own_step (T' := T326) (g' := (mkF m 61 #[.val (.int p0), .val (.int p1), .val (.int p2), .val (.int p3), .val (.int p4), .val (.int p5), .val (.int ((p0 &&& (2147483647 : Int32)) % (8 : Int32))), .val (.ref x7), .val (.int (0 : Int32)), .val (.int (1 : Int32)), .unset, .unset, .unset, .unset, .unset, .unset, .unset, .unset] [(.int (p3 &&& (255 : Int32))), (.int (1 : Int32)), (.ref a317), (.ref a317)])) (fun _ kk => XS.iand X326.here hx rfl (hb hby at_60) rfl kk) ?_
      refine own_step (T' := T326) (g' := (mkF m 62 #[.val (.int p0), .val (.int p1), .val (.int p2), .val (.int p3), .val (.int p4), .val (.int p5), .val (.int ((p0 &&& (2147483647 : Int32)) % (8 : Int32))), .val (.ref x7), .val (.int (0 : Int32)), .val (.int (1 : Int32)), .unset, .unset, .unset, .unset, .unset, .unset, .unset, .unset] [(.int ((p3 &&& (255 : Int32)).toUInt32.toUInt16.toUInt32.toInt32)), (.int (1 : Int32)), (.ref a317), (.ref a317)])) (fun _ kk => XS.i2c X326.here hx rfl (hb hby at_61) rfl kk) ?_
      rw [i2c_mask]
      obtain ⟨Ac332, Ar332, q332, Sz332, Nn332, Hs332, Gs332⟩ := F331
      obtain ⟨T332, h332, X332, e332, W332, st332⟩ := stC X326 hx hZ e326 Ar332 (j := (1 : Int32)) (x := (p3 &&& (255 : Int32))) (inb_of Sz332 ⟨by decide, by decide⟩) (g := (mkF m 62 #[.val (.int p0), .val (.int p1), .val (.int p2), .val (.int p3), .val (.int p4), .val (.int p5), .val (.int ((p0 &&& (2147483647 : Int32)) % (8 : Int32))), .val (.ref x7), .val (.int (0 : Int32)), .val (.int (1 : Int32)), .unset, .unset, .unset, .unset, .unset, .unset, .unset, .unset] [(.int (p3 &&& (255 : Int32))), (.int (1 : Int32)), (.ref a317), (.ref a317)])) rfl rfl (hb hby at_62)
      have F333 := Fr.snoc X332 F327 ge319
      have F334 := (Nat.le_trans F328 (Nat.le_of_eq (Wr.size W332).symm))
      have F335 := F329.wr W332 ge319
      have F336 := F330.wr W332 (Or.inr ng320)
      have F337 : Arv Z h332 a317 cA318 .char (2 : Int32) [(.int (p2 &&& (255 : Int32))), (.int (p3 &&& (255 : Int32)))] (.int 0) := by
        have q := Arv.set Ar332 q332 Sz332 Nn332 Hs332 Gs332 (fits_nar_char _) W332 1 rfl (Nat.le_of_ble_eq_true rfl)
        rw [own_n255] at q
        exact q
      refine own_step (T' := T332) (g' := (mkF m 63 #[.val (.int p0), .val (.int p1), .val (.int p2), .val (.int p3), .val (.int p4), .val (.int p5), .val (.int ((p0 &&& (2147483647 : Int32)) % (8 : Int32))), .val (.ref x7), .val (.int (0 : Int32)), .val (.int (1 : Int32)), .unset, .unset, .unset, .unset, .unset, .unset, .unset, .unset] [(.ref a317)])) (fun _ kk => st332 _ kk) ?_
      refine own_step (T' := T332) (g' := (mkF m 65 #[.val (.int p0), .val (.int p1), .val (.int p2), .val (.int p3), .val (.int p4), .val (.int p5), .val (.int ((p0 &&& (2147483647 : Int32)) % (8 : Int32))), .val (.ref x7), .val (.int (0 : Int32)), .val (.int (1 : Int32)), .val (.ref a317), .unset, .unset, .unset, .unset, .unset, .unset, .unset] [])) (fun _ kk => XS.astore X332.here hx rfl (hb hby at_63) rfl rfl (l' := #[.val (.int p0), .val (.int p1), .val (.int p2), .val (.int p3), .val (.int p4), .val (.int p5), .val (.int ((p0 &&& (2147483647 : Int32)) % (8 : Int32))), .val (.ref x7), .val (.int (0 : Int32)), .val (.int (1 : Int32)), .val (.ref a317), .unset, .unset, .unset, .unset, .unset, .unset, .unset]) rfl kk) ?_
      obtain ⟨T339, h339, X339, e339, E339, A339, D339, U339, st339⟩ := newO X332 hx hZ hown (w9 hw) (w10 hw) (w11 hw) e332 (g := (mkF m 65 #[.val (.int p0), .val (.int p1), .val (.int p2), .val (.int p3), .val (.int p4), .val (.int p5), .val (.int ((p0 &&& (2147483647 : Int32)) % (8 : Int32))), .val (.ref x7), .val (.int (0 : Int32)), .val (.int (1 : Int32)), .val (.ref a317), .unset, .unset, .unset, .unset, .unset, .unset, .unset] [])) rfl (hb hby at_65) (by decide) (by decide)
      obtain ⟨a338, g339⟩ : ∃ z, z = h332.size := ⟨_, rfl⟩
      rw [← g339] at A339 D339 U339 st339
      have ne340 : a317 ≠ a338 := Nat.ne_of_lt (by rw [g339]; exact F337.lt)
      have ge341 : Z.heap.size ≤ a338 := by rw [g339]; exact F335.2.1
      have ng342 : h0.size ≤ a338 := by rw [g339]; exact F336.1
      have F343 := F337.ext E339
      have F344 := Nat.le_trans F334 E339.1
      have F345 := F335.ext E339
      have F346 := F336.ext E339
      have F347 : own_Obj Z h339 a338 "java/lang/String" := own_Obj.new A339 U339
      refine own_step (T' := T339) (g' := (mkF m 68 #[.val (.int p0), .val (.int p1), .val (.int p2), .val (.int p3), .val (.int p4), .val (.int p5), .val (.int ((p0 &&& (2147483647 : Int32)) % (8 : Int32))), .val (.ref x7), .val (.int (0 : Int32)), .val (.int (1 : Int32)), .val (.ref a317), .unset, .unset, .unset, .unset, .unset, .unset, .unset] [(.ref a338)])) (fun _ kk => st339 _ kk) ?_
      refine own_step (T' := T339) (g' := (mkF m 69 #[.val (.int p0), .val (.int p1), .val (.int p2), .val (.int p3), .val (.int p4), .val (.int p5), .val (.int ((p0 &&& (2147483647 : Int32)) % (8 : Int32))), .val (.ref x7), .val (.int (0 : Int32)), .val (.int (1 : Int32)), .val (.ref a317), .unset, .unset, .unset, .unset, .unset, .unset, .unset] [(.ref a338), (.ref a338)])) (fun _ kk => XS.dup X339.here hx rfl (hb hby at_68) rfl rfl kk) ?_
      refine own_step (T' := T339) (g' := (mkF m 71 #[.val (.int p0), .val (.int p1), .val (.int p2), .val (.int p3), .val (.int p4), .val (.int p5), .val (.int ((p0 &&& (2147483647 : Int32)) % (8 : Int32))), .val (.ref x7), .val (.int (0 : Int32)), .val (.int (1 : Int32)), .val (.ref a317), .unset, .unset, .unset, .unset, .unset, .unset, .unset] [(.ref a317), (.ref a338), (.ref a338)])) (fun _ kk => XS.aload X339.here hx rfl (hb hby at_69) rfl rfl kk) ?_
      obtain ⟨u348, Fu348⟩ := F347.fld (w10 hw) (Or.inr (w37 hw) : Laid Z a0 "java/lang/String" "java/lang/String" "value" "[B")
      obtain ⟨y348, Fy348⟩ := F347.fld (w10 hw) (Or.inr (w35 hw) : Laid Z a0 "java/lang/String" "java/lang/String" "coder" "B")
      obtain ⟨T348, L348, _, h348, X348, e348, ⟨rfl, Nq348, Kq348, Eq348, Cq348, sb348, kb348, ga348, gb348, nb348, Vq348, Aq348⟩, st348⟩ := own_bcallC X339 hx hZ hown rfl (w12 hw) (w13 hw) (w14 hw) (by decide) (a := a338) (g := (mkF m 71 #[.val (.int p0), .val (.int p1), .val (.int p2), .val (.int p3), .val (.int p4), .val (.int p5), .val (.int ((p0 &&& (2147483647 : Int32)) % (8 : Int32))), .val (.ref x7), .val (.int (0 : Int32)), .val (.int (1 : Int32)), .val (.ref a317), .unset, .unset, .unset, .unset, .unset, .unset, .unset] [(.ref a317), (.ref a338), (.ref a338)])) rfl (by rw [hml]; rfl) (argsL := [.ref a317]) (rest := [(.ref a338)]) (StrChars.Road.backV (W := 1) hZ (own_hws hw) (kI := 4) (w10 hw) (cs := [p2 &&& (255 : Int32), p3 &&& (255 : Int32)]) (n := 2) (n0 := Z.heap.size) ge341 (Nat.le_trans F345.2.1 (Nat.le_refl _)) F347.1 Fu348 Fy348 F343 (SC.ext F345.2) hzc rfl rfl (by decide) (by decide) own_hp2 rfl (by decide) (by decide)) e339 pd___C_V rfl rfl (by show 2 * 0 + _ ≤ _; exact Nat.le_of_eq rfl) (hb hby at_71) (by decide) (by decide)
      have F349 := Fr.app F333 Nq348
      have F350 := F343.keep Kq348 (ninS ne340 nin0)
      have F351 := F347.keep Kq348
      have F352 := Nat.le_trans F344 Kq348.1
      have F353 := F345.keep Kq348 (allS ge341 all0)
      have F354 := F346.trans Kq348 (allS (Or.inr ng342) all0)
      refine own_step (T' := T348) (g' := (mkF m 74 #[.val (.int p0), .val (.int p1), .val (.int p2), .val (.int p3), .val (.int p4), .val (.int p5), .val (.int ((p0 &&& (2147483647 : Int32)) % (8 : Int32))), .val (.ref x7), .val (.int (0 : Int32)), .val (.int (1 : Int32)), .val (.ref a317), .unset, .unset, .unset, .unset, .unset, .unset, .unset] [(.ref a338)])) (fun _ kk => st348 _ kk) ?_
      refine own_step (T' := T348) (g' := (mkF m 76 #[.val (.int p0), .val (.int p1), .val (.int p2), .val (.int p3), .val (.int p4), .val (.int p5), .val (.int ((p0 &&& (2147483647 : Int32)) % (8 : Int32))), .val (.ref x7), .val (.int (0 : Int32)), .val (.int (1 : Int32)), .val (.ref a317), .val (.ref a338), .unset, .unset, .unset, .unset, .unset, .unset] [])) (fun _ kk => XS.astore X348.here hx rfl (hb hby at_74) rfl rfl (l' := #[.val (.int p0), .val (.int p1), .val (.int p2), .val (.int p3), .val (.int p4), .val (.int p5), .val (.int ((p0 &&& (2147483647 : Int32)) % (8 : Int32))), .val (.ref x7), .val (.int (0 : Int32)), .val (.int (1 : Int32)), .val (.ref a317), .val (.ref a338), .unset, .unset, .unset, .unset, .unset, .unset]) rfl kk) ?_
      refine own_step (T' := T348) (g' := (mkF m 78 #[.val (.int p0), .val (.int p1), .val (.int p2), .val (.int p3), .val (.int p4), .val (.int p5), .val (.int ((p0 &&& (2147483647 : Int32)) % (8 : Int32))), .val (.ref x7), .val (.int (0 : Int32)), .val (.int (1 : Int32)), .val (.ref a317), .val (.ref a338), .unset, .unset, .unset, .unset, .unset, .unset] [(.int (0 : Int32))])) (fun _ kk => XS.iload X348.here hx rfl (hb hby at_76) rfl kk) ?_
      refine own_step (T' := T348) (g' := (mkF m 85 #[.val (.int p0), .val (.int p1), .val (.int p2), .val (.int p3), .val (.int p4), .val (.int p5), .val (.int ((p0 &&& (2147483647 : Int32)) % (8 : Int32))), .val (.ref x7), .val (.int (0 : Int32)), .val (.int (1 : Int32)), .val (.ref a317), .val (.ref a338), .unset, .unset, .unset, .unset, .unset, .unset] [])) (fun _ kk => XS.ifYes X348.here hx rfl (pc0 := 78) (pc' := 85) rfl (hb hby at_78) rfl ((if0 _ _).trans (teq rfl).1) (by decide) (by decide) kk) ?_
      refine own_step (T' := T348) (g' := (mkF m 87 #[.val (.int p0), .val (.int p1), .val (.int p2), .val (.int p3), .val (.int p4), .val (.int p5), .val (.int ((p0 &&& (2147483647 : Int32)) % (8 : Int32))), .val (.ref x7), .val (.int (0 : Int32)), .val (.int (1 : Int32)), .val (.ref a317), .val (.ref a338), .unset, .unset, .unset, .unset, .unset, .unset] [(.int (1 : Int32))])) (fun _ kk => XS.iload X348.here hx rfl (hb hby at_85) rfl kk) ?_
      refine own_step (T' := T348) (g' := (mkF m 90 #[.val (.int p0), .val (.int p1), .val (.int p2), .val (.int p3), .val (.int p4), .val (.int p5), .val (.int ((p0 &&& (2147483647 : Int32)) % (8 : Int32))), .val (.ref x7), .val (.int (0 : Int32)), .val (.int (1 : Int32)), .val (.ref a317), .val (.ref a338), .unset, .unset, .unset, .unset, .unset, .unset] [])) (fun _ kk => XS.ifNo X348.here hx rfl (hb hby at_87) rfl ((if0 _ _).trans (feq (by decide)).1) kk) ?_
      obtain ⟨sa355, T355, h355, k355, X355, e355, E355, hS355, hk355, hZ355, ho355, st355⟩ := ldcS X348 hx hZ hown (w104 hw) (own_strAtoms hw) e348 hS0 F352 (g := (mkF m 90 #[.val (.int p0), .val (.int p1), .val (.int p2), .val (.int p3), .val (.int p4), .val (.int p5), .val (.int ((p0 &&& (2147483647 : Int32)) % (8 : Int32))), .val (.ref x7), .val (.int (0 : Int32)), .val (.int (1 : Int32)), .val (.ref a317), .val (.ref a338), .unset, .unset, .unset, .unset, .unset, .unset] [])) rfl (hb hby at_90) (n := 0) (by decide) (by decide) (by decide) (by decide)
      have F356 := Nat.le_trans F352 E355.1
      have F357 := F353.ext E355
      have F358 := F354.ext E355
      refine own_step (T' := T355) (g' := (mkF m 92 #[.val (.int p0), .val (.int p1), .val (.int p2), .val (.int p3), .val (.int p4), .val (.int p5), .val (.int ((p0 &&& (2147483647 : Int32)) % (8 : Int32))), .val (.ref x7), .val (.int (0 : Int32)), .val (.int (1 : Int32)), .val (.ref a317), .val (.ref a338), .unset, .unset, .unset, .unset, .unset, .unset] [(.ref sa355)])) (fun _ kk => st355 _ kk) ?_
      refine own_step (T' := T355) (g' := (mkF m 97 #[.val (.int p0), .val (.int p1), .val (.int p2), .val (.int p3), .val (.int p4), .val (.int p5), .val (.int ((p0 &&& (2147483647 : Int32)) % (8 : Int32))), .val (.ref x7), .val (.int (0 : Int32)), .val (.int (1 : Int32)), .val (.ref a317), .val (.ref a338), .unset, .unset, .unset, .unset, .unset, .unset] [(.ref sa355)])) (fun _ kk => XS.goto X355.here hx rfl (pc0 := 92) (pc' := 97) rfl (hb hby at_92) (by decide) (by decide) kk) ?_
      refine own_step (T' := T355) (g' := (mkF m 99 #[.val (.int p0), .val (.int p1), .val (.int p2), .val (.int p3), .val (.int p4), .val (.int p5), .val (.int ((p0 &&& (2147483647 : Int32)) % (8 : Int32))), .val (.ref x7), .val (.int (0 : Int32)), .val (.int (1 : Int32)), .val (.ref a317), .val (.ref a338), .val (.ref sa355), .unset, .unset, .unset, .unset, .unset] [])) (fun _ kk => XS.astore X355.here hx rfl (hb hby at_97) rfl rfl (l' := #[.val (.int p0), .val (.int p1), .val (.int p2), .val (.int p3), .val (.int p4), .val (.int p5), .val (.int ((p0 &&& (2147483647 : Int32)) % (8 : Int32))), .val (.ref x7), .val (.int (0 : Int32)), .val (.int (1 : Int32)), .val (.ref a317), .val (.ref a338), .val (.ref sa355), .unset, .unset, .unset, .unset, .unset]) rfl kk) ?_
      refine own_step (T' := T355) (g' := (mkF m 101 #[.val (.int p0), .val (.int p1), .val (.int p2), .val (.int p3), .val (.int p4), .val (.int p5), .val (.int ((p0 &&& (2147483647 : Int32)) % (8 : Int32))), .val (.ref x7), .val (.int (0 : Int32)), .val (.int (1 : Int32)), .val (.ref a317), .val (.ref a338), .val (.ref sa355), .unset, .unset, .unset, .unset, .unset] [(.int (0 : Int32))])) (fun _ kk => XS.iload X355.here hx rfl (hb hby at_99) rfl kk) ?_
      refine own_step (T' := T355) (g' := (mkF m 108 #[.val (.int p0), .val (.int p1), .val (.int p2), .val (.int p3), .val (.int p4), .val (.int p5), .val (.int ((p0 &&& (2147483647 : Int32)) % (8 : Int32))), .val (.ref x7), .val (.int (0 : Int32)), .val (.int (1 : Int32)), .val (.ref a317), .val (.ref a338), .val (.ref sa355), .unset, .unset, .unset, .unset, .unset] [])) (fun _ kk => XS.ifYes X355.here hx rfl (pc0 := 101) (pc' := 108) rfl (hb hby at_101) rfl ((if0 _ _).trans (teq rfl).1) (by decide) (by decide) kk) ?_
      refine own_step (T' := T355) (g' := (mkF m 109 #[.val (.int p0), .val (.int p1), .val (.int p2), .val (.int p3), .val (.int p4), .val (.int p5), .val (.int ((p0 &&& (2147483647 : Int32)) % (8 : Int32))), .val (.ref x7), .val (.int (0 : Int32)), .val (.int (1 : Int32)), .val (.ref a317), .val (.ref a338), .val (.ref sa355), .unset, .unset, .unset, .unset, .unset] [(.int p3)])) (fun _ kk => XS.iloadN X355.here hx rfl (hb hby at_108) rfl kk) ?_
      refine own_step (T' := T355) (g' := (mkF m 112 #[.val (.int p0), .val (.int p1), .val (.int p2), .val (.int p3), .val (.int p4), .val (.int p5), .val (.int ((p0 &&& (2147483647 : Int32)) % (8 : Int32))), .val (.ref x7), .val (.int (0 : Int32)), .val (.int (1 : Int32)), .val (.ref a317), .val (.ref a338), .val (.ref sa355), .unset, .unset, .unset, .unset, .unset] [(.int (255 : Int32)), (.int p3)])) (fun _ kk => XS.sipush X355.here hx rfl (hb hby at_109) kk) ?_
      refine own_step (T' := T355) (g' := (mkF m 113 #[.val (.int p0), .val (.int p1), .val (.int p2), .val (.int p3), .val (.int p4), .val (.int p5), .val (.int ((p0 &&& (2147483647 : Int32)) % (8 : Int32))), .val (.ref x7), .val (.int (0 : Int32)), .val (.int (1 : Int32)), .val (.ref a317), .val (.ref a338), .val (.ref sa355), .unset, .unset, .unset, .unset, .unset] [(.int (p3 &&& (255 : Int32)))])) (fun _ kk => XS.iand X355.here hx rfl (hb hby at_112) rfl kk) ?_
      refine own_step (T' := T355) (g' := (mkF m 114 #[.val (.int p0), .val (.int p1), .val (.int p2), .val (.int p3), .val (.int p4), .val (.int p5), .val (.int ((p0 &&& (2147483647 : Int32)) % (8 : Int32))), .val (.ref x7), .val (.int (0 : Int32)), .val (.int (1 : Int32)), .val (.ref a317), .val (.ref a338), .val (.ref sa355), .unset, .unset, .unset, .unset, .unset] [(.int ((p3 &&& (255 : Int32)).toUInt32.toUInt16.toUInt32.toInt32))])) (fun _ kk => XS.i2c X355.here hx rfl (hb hby at_113) rfl kk) ?_
      rw [i2c_mask]
      obtain ⟨T359, L359, _, h359, X359, e359, ⟨fv, rfl, Nv, Kv⟩, st359⟩ := own_callS X355 hx hZ355 ho355 (w90 hw) (w91 hw) (w92 hw) (w11 hw) (by decide) (g := (mkF m 114 #[.val (.int p0), .val (.int p1), .val (.int p2), .val (.int p3), .val (.int p4), .val (.int p5), .val (.int ((p0 &&& (2147483647 : Int32)) % (8 : Int32))), .val (.ref x7), .val (.int (0 : Int32)), .val (.int (1 : Int32)), .val (.ref a317), .val (.ref a338), .val (.ref sa355), .unset, .unset, .unset, .unset, .unset] [(.int (p3 &&& (255 : Int32)))])) rfl (by rw [hml]; rfl) (argsL := [(.int (p3 &&& (255 : Int32)))]) (rest := []) (rm_vo l Z a0 hw (p3 &&& (255 : Int32)) zc _ F357 SC hzc (own_m255 p3).2) e355 pd__C_Ljava_lang_String_ rfl rfl (W := 0) (by show 2 * 0 + _ ≤ _; exact Nat.le_of_eq rfl) (hb hby at_114) (by decide) (by decide) (by decide) (by decide)
      have F360 := Fr.app F349 Nv
      have F361 := Nat.le_trans hk355 Kv.1
      have F362 := F357.keep Kv all0
      have F363 := F358.trans Kv all0
      refine own_step (T' := T359) (g' := (mkF m 117 #[.val (.int p0), .val (.int p1), .val (.int p2), .val (.int p3), .val (.int p4), .val (.int p5), .val (.int ((p0 &&& (2147483647 : Int32)) % (8 : Int32))), .val (.ref x7), .val (.int (0 : Int32)), .val (.int (1 : Int32)), .val (.ref a317), .val (.ref a338), .val (.ref sa355), .unset, .unset, .unset, .unset, .unset] [(.ref fv)])) (fun _ kk => st359 _ kk) ?_
      refine own_step (T' := T359) (g' := (mkF m 119 #[.val (.int p0), .val (.int p1), .val (.int p2), .val (.int p3), .val (.int p4), .val (.int p5), .val (.int ((p0 &&& (2147483647 : Int32)) % (8 : Int32))), .val (.ref x7), .val (.int (0 : Int32)), .val (.int (1 : Int32)), .val (.ref a317), .val (.ref a338), .val (.ref sa355), .val (.ref fv), .unset, .unset, .unset, .unset] [])) (fun _ kk => XS.astore X359.here hx rfl (hb hby at_117) rfl rfl (l' := #[.val (.int p0), .val (.int p1), .val (.int p2), .val (.int p3), .val (.int p4), .val (.int p5), .val (.int ((p0 &&& (2147483647 : Int32)) % (8 : Int32))), .val (.ref x7), .val (.int (0 : Int32)), .val (.int (1 : Int32)), .val (.ref a317), .val (.ref a338), .val (.ref sa355), .val (.ref fv), .unset, .unset, .unset, .unset]) rfl kk) ?_
      refine own_step (T' := T359) (g' := (mkF m 120 #[.val (.int p0), .val (.int p1), .val (.int p2), .val (.int p3), .val (.int p4), .val (.int p5), .val (.int ((p0 &&& (2147483647 : Int32)) % (8 : Int32))), .val (.ref x7), .val (.int (0 : Int32)), .val (.int (1 : Int32)), .val (.ref a317), .val (.ref a338), .val (.ref sa355), .val (.ref fv), .unset, .unset, .unset, .unset] [(.int p1)])) (fun _ kk => XS.iloadN X359.here hx rfl (hb hby at_119) rfl kk) ?_
      refine own_step (T' := T359) (g' := (mkF m 121 #[.val (.int p0), .val (.int p1), .val (.int p2), .val (.int p3), .val (.int p4), .val (.int p5), .val (.int ((p0 &&& (2147483647 : Int32)) % (8 : Int32))), .val (.ref x7), .val (.int (0 : Int32)), .val (.int (1 : Int32)), .val (.ref a317), .val (.ref a338), .val (.ref sa355), .val (.ref fv), .unset, .unset, .unset, .unset] [(.int (2 : Int32)), (.int p1)])) (fun _ kk => XS.iconst X359.here hx rfl (hb hby at_120) kk) ?_
      refine own_step (T' := T359) (g' := (mkF m 122 #[.val (.int p0), .val (.int p1), .val (.int p2), .val (.int p3), .val (.int p4), .val (.int p5), .val (.int ((p0 &&& (2147483647 : Int32)) % (8 : Int32))), .val (.ref x7), .val (.int (0 : Int32)), .val (.int (1 : Int32)), .val (.ref a317), .val (.ref a338), .val (.ref sa355), .val (.ref fv), .unset, .unset, .unset, .unset] [(.int (p1 &&& (2 : Int32)))])) (fun _ kk => XS.iand X359.here hx rfl (hb hby at_121) rfl kk) ?_
      by_cases c364 : (p1 &&& (2 : Int32)) = (0 : Int32)
      · refine own_step (T' := T359) (g' := (mkF m 129 #[.val (.int p0), .val (.int p1), .val (.int p2), .val (.int p3), .val (.int p4), .val (.int p5), .val (.int ((p0 &&& (2147483647 : Int32)) % (8 : Int32))), .val (.ref x7), .val (.int (0 : Int32)), .val (.int (1 : Int32)), .val (.ref a317), .val (.ref a338), .val (.ref sa355), .val (.ref fv), .unset, .unset, .unset, .unset] [])) (fun _ kk => XS.ifYes X359.here hx rfl (pc0 := 122) (pc' := 129) rfl (hb hby at_122) rfl ((if0 _ _).trans (teq c364).1) (by decide) (by decide) kk) ?_
        refine own_step (T' := T359) (g' := (mkF m 131 #[.val (.int p0), .val (.int p1), .val (.int p2), .val (.int p3), .val (.int p4), .val (.int p5), .val (.int ((p0 &&& (2147483647 : Int32)) % (8 : Int32))), .val (.ref x7), .val (.int (0 : Int32)), .val (.int (1 : Int32)), .val (.ref a317), .val (.ref a338), .val (.ref sa355), .val (.ref fv), .unset, .unset, .unset, .unset] [(.int p4)])) (fun _ kk => XS.iload X359.here hx rfl (hb hby at_129) rfl kk) ?_
        refine own_step (T' := T359) (g' := (mkF m 132 #[.val (.int p0), .val (.int p1), .val (.int p2), .val (.int p3), .val (.int p4), .val (.int p5), .val (.int ((p0 &&& (2147483647 : Int32)) % (8 : Int32))), .val (.ref x7), .val (.int (0 : Int32)), .val (.int (1 : Int32)), .val (.ref a317), .val (.ref a338), .val (.ref sa355), .val (.ref fv), .unset, .unset, .unset, .unset] [(.long (p4.toInt64))])) (fun _ kk => XS.i2l X359.here hx rfl (hb hby at_131) rfl kk) ?_
        obtain ⟨T365, L365, _, h365, X365, e365, ⟨uv, rfl, ru, cu, Nl, Kl⟩, st365⟩ := own_callS X359 hx hZ355 ho355 (w107 hw) (w108 hw) (w110 hw) (w109 hw) (by decide) (g := (mkF m 132 #[.val (.int p0), .val (.int p1), .val (.int p2), .val (.int p3), .val (.int p4), .val (.int p5), .val (.int ((p0 &&& (2147483647 : Int32)) % (8 : Int32))), .val (.ref x7), .val (.int (0 : Int32)), .val (.int (1 : Int32)), .val (.ref a317), .val (.ref a338), .val (.ref sa355), .val (.ref fv), .unset, .unset, .unset, .unset] [(.long (p4.toInt64))])) rfl (by rw [hml]; rfl) (argsL := [(.long (p4.toInt64))]) (rest := []) (rm_lv l Z a0 hw (p4.toInt64) ca cl _ F362 SL AL hin hcache) e359 pd__J_Ljava_lang_Long_ rfl rfl (W := 0) (by show 2 * 0 + _ ≤ _; exact Nat.le_of_eq rfl) (hb hby at_132) (by decide) (by decide) (by decide) (by decide)
        have F366 := Fr.app F360 Nl
        have F367 := Nat.le_trans F361 Kl.1
        have F368 := F362.keep Kl all0
        have F369 := F363.trans Kl all0
        refine own_step (T' := T365) (g' := (mkF m 135 #[.val (.int p0), .val (.int p1), .val (.int p2), .val (.int p3), .val (.int p4), .val (.int p5), .val (.int ((p0 &&& (2147483647 : Int32)) % (8 : Int32))), .val (.ref x7), .val (.int (0 : Int32)), .val (.int (1 : Int32)), .val (.ref a317), .val (.ref a338), .val (.ref sa355), .val (.ref fv), .unset, .unset, .unset, .unset] [uv])) (fun _ kk => st365 _ kk) ?_
        refine own_step (T' := T365) (g' := (mkF m 137 #[.val (.int p0), .val (.int p1), .val (.int p2), .val (.int p3), .val (.int p4), .val (.int p5), .val (.int ((p0 &&& (2147483647 : Int32)) % (8 : Int32))), .val (.ref x7), .val (.int (0 : Int32)), .val (.int (1 : Int32)), .val (.ref a317), .val (.ref a338), .val (.ref sa355), .val (.ref fv), .val uv, .unset, .unset, .unset] [])) (fun _ kk => XS.astore X365.here hx rfl (hb hby at_135) rfl ru (l' := #[.val (.int p0), .val (.int p1), .val (.int p2), .val (.int p3), .val (.int p4), .val (.int p5), .val (.int ((p0 &&& (2147483647 : Int32)) % (8 : Int32))), .val (.ref x7), .val (.int (0 : Int32)), .val (.int (1 : Int32)), .val (.ref a317), .val (.ref a338), .val (.ref sa355), .val (.ref fv), .val uv, .unset, .unset, .unset]) (XS.store1 (o := .unset) rfl (Or.inl rfl) cu) kk) ?_
        exact seg _ _ _ _ _ _ _ _ _ _ _ _ _ _ (X365.mono (by decide) (by decide)) e365 hZ355 ho355 hS355 F367 F366 F368 PX rfl rfl rfl rfl ru cu (Or.inr ⟨by simp, rfl⟩)
      · refine own_step (T' := T359) (g' := (mkF m 125 #[.val (.int p0), .val (.int p1), .val (.int p2), .val (.int p3), .val (.int p4), .val (.int p5), .val (.int ((p0 &&& (2147483647 : Int32)) % (8 : Int32))), .val (.ref x7), .val (.int (0 : Int32)), .val (.int (1 : Int32)), .val (.ref a317), .val (.ref a338), .val (.ref sa355), .val (.ref fv), .unset, .unset, .unset, .unset] [])) (fun _ kk => XS.ifNo X359.here hx rfl (hb hby at_122) rfl ((if0 _ _).trans (feq c364).1) kk) ?_
        refine own_step (T' := T359) (g' := (mkF m 126 #[.val (.int p0), .val (.int p1), .val (.int p2), .val (.int p3), .val (.int p4), .val (.int p5), .val (.int ((p0 &&& (2147483647 : Int32)) % (8 : Int32))), .val (.ref x7), .val (.int (0 : Int32)), .val (.int (1 : Int32)), .val (.ref a317), .val (.ref a338), .val (.ref sa355), .val (.ref fv), .unset, .unset, .unset, .unset] [.null])) (fun _ kk => XS.aconstNull X359.here hx rfl (hb hby at_125) kk) ?_
        refine own_step (T' := T359) (g' := (mkF m 135 #[.val (.int p0), .val (.int p1), .val (.int p2), .val (.int p3), .val (.int p4), .val (.int p5), .val (.int ((p0 &&& (2147483647 : Int32)) % (8 : Int32))), .val (.ref x7), .val (.int (0 : Int32)), .val (.int (1 : Int32)), .val (.ref a317), .val (.ref a338), .val (.ref sa355), .val (.ref fv), .unset, .unset, .unset, .unset] [.null])) (fun _ kk => XS.goto X359.here hx rfl (pc0 := 126) (pc' := 135) rfl (hb hby at_126) (by decide) (by decide) kk) ?_
        refine own_step (T' := T359) (g' := (mkF m 137 #[.val (.int p0), .val (.int p1), .val (.int p2), .val (.int p3), .val (.int p4), .val (.int p5), .val (.int ((p0 &&& (2147483647 : Int32)) % (8 : Int32))), .val (.ref x7), .val (.int (0 : Int32)), .val (.int (1 : Int32)), .val (.ref a317), .val (.ref a338), .val (.ref sa355), .val (.ref fv), .val .null, .unset, .unset, .unset] [])) (fun _ kk => XS.astore X359.here hx rfl (hb hby at_135) rfl rfl (l' := #[.val (.int p0), .val (.int p1), .val (.int p2), .val (.int p3), .val (.int p4), .val (.int p5), .val (.int ((p0 &&& (2147483647 : Int32)) % (8 : Int32))), .val (.ref x7), .val (.int (0 : Int32)), .val (.int (1 : Int32)), .val (.ref a317), .val (.ref a338), .val (.ref sa355), .val (.ref fv), .val .null, .unset, .unset, .unset]) rfl kk) ?_
        exact seg _ _ _ _ _ _ _ _ _ _ _ _ _ _ (X359.mono (by decide) (by decide)) e359 hZ355 ho355 hS355 F361 F360 F362 PX rfl rfl rfl rfl rfl rfl (Or.inr ⟨by simp, rfl⟩)
  · refine own_step (T' := T263) (g' := (mkF m 22 #[.val (.int p0), .val (.int p1), .val (.int p2), .val (.int p3), .val (.int p4), .val (.int p5), .val (.int ((p0 &&& (2147483647 : Int32)) % (8 : Int32))), .val (.ref x7), .unset, .unset, .unset, .unset, .unset, .unset, .unset, .unset, .unset, .unset] [])) (fun _ kk => XS.ifNo X263.here hx rfl (hb hby at_19) rfl ((if0 _ _).trans (feq c266).1) kk) ?_
    refine own_step (T' := T263) (g' := (mkF m 23 #[.val (.int p0), .val (.int p1), .val (.int p2), .val (.int p3), .val (.int p4), .val (.int p5), .val (.int ((p0 &&& (2147483647 : Int32)) % (8 : Int32))), .val (.ref x7), .unset, .unset, .unset, .unset, .unset, .unset, .unset, .unset, .unset, .unset] [(.int (1 : Int32))])) (fun _ kk => XS.iconst X263.here hx rfl (hb hby at_22) kk) ?_
    refine own_step (T' := T263) (g' := (mkF m 27 #[.val (.int p0), .val (.int p1), .val (.int p2), .val (.int p3), .val (.int p4), .val (.int p5), .val (.int ((p0 &&& (2147483647 : Int32)) % (8 : Int32))), .val (.ref x7), .unset, .unset, .unset, .unset, .unset, .unset, .unset, .unset, .unset, .unset] [(.int (1 : Int32))])) (fun _ kk => XS.goto X263.here hx rfl (pc0 := 23) (pc' := 27) rfl (hb hby at_23) (by decide) (by decide) kk) ?_
    refine own_step (T' := T263) (g' := (mkF m 29 #[.val (.int p0), .val (.int p1), .val (.int p2), .val (.int p3), .val (.int p4), .val (.int p5), .val (.int ((p0 &&& (2147483647 : Int32)) % (8 : Int32))), .val (.ref x7), .val (.int (1 : Int32)), .unset, .unset, .unset, .unset, .unset, .unset, .unset, .unset, .unset] [])) (fun _ kk => XS.istore X263.here hx rfl (hb hby at_27) rfl (l' := #[.val (.int p0), .val (.int p1), .val (.int p2), .val (.int p3), .val (.int p4), .val (.int p5), .val (.int ((p0 &&& (2147483647 : Int32)) % (8 : Int32))), .val (.ref x7), .val (.int (1 : Int32)), .unset, .unset, .unset, .unset, .unset, .unset, .unset, .unset, .unset]) rfl kk) ?_
    refine own_step (T' := T263) (g' := (mkF m 30 #[.val (.int p0), .val (.int p1), .val (.int p2), .val (.int p3), .val (.int p4), .val (.int p5), .val (.int ((p0 &&& (2147483647 : Int32)) % (8 : Int32))), .val (.ref x7), .val (.int (1 : Int32)), .unset, .unset, .unset, .unset, .unset, .unset, .unset, .unset, .unset] [(.int p1)])) (fun _ kk => XS.iloadN X263.here hx rfl (hb hby at_29) rfl kk) ?_
    refine own_step (T' := T263) (g' := (mkF m 31 #[.val (.int p0), .val (.int p1), .val (.int p2), .val (.int p3), .val (.int p4), .val (.int p5), .val (.int ((p0 &&& (2147483647 : Int32)) % (8 : Int32))), .val (.ref x7), .val (.int (1 : Int32)), .unset, .unset, .unset, .unset, .unset, .unset, .unset, .unset, .unset] [(.int (4 : Int32)), (.int p1)])) (fun _ kk => XS.iconst X263.here hx rfl (hb hby at_30) kk) ?_
    refine own_step (T' := T263) (g' := (mkF m 32 #[.val (.int p0), .val (.int p1), .val (.int p2), .val (.int p3), .val (.int p4), .val (.int p5), .val (.int ((p0 &&& (2147483647 : Int32)) % (8 : Int32))), .val (.ref x7), .val (.int (1 : Int32)), .unset, .unset, .unset, .unset, .unset, .unset, .unset, .unset, .unset] [(.int (p1 &&& (4 : Int32)))])) (fun _ kk => XS.iand X263.here hx rfl (hb hby at_31) rfl kk) ?_
    by_cases c370 : (p1 &&& (4 : Int32)) = (0 : Int32)
    · refine own_step (T' := T263) (g' := (mkF m 39 #[.val (.int p0), .val (.int p1), .val (.int p2), .val (.int p3), .val (.int p4), .val (.int p5), .val (.int ((p0 &&& (2147483647 : Int32)) % (8 : Int32))), .val (.ref x7), .val (.int (1 : Int32)), .unset, .unset, .unset, .unset, .unset, .unset, .unset, .unset, .unset] [])) (fun _ kk => XS.ifYes X263.here hx rfl (pc0 := 32) (pc' := 39) rfl (hb hby at_32) rfl ((if0 _ _).trans (teq c370).1) (by decide) (by decide) kk) ?_
      refine own_step (T' := T263) (g' := (mkF m 40 #[.val (.int p0), .val (.int p1), .val (.int p2), .val (.int p3), .val (.int p4), .val (.int p5), .val (.int ((p0 &&& (2147483647 : Int32)) % (8 : Int32))), .val (.ref x7), .val (.int (1 : Int32)), .unset, .unset, .unset, .unset, .unset, .unset, .unset, .unset, .unset] [(.int (0 : Int32))])) (fun _ kk => XS.iconst X263.here hx rfl (hb hby at_39) kk) ?_
      refine own_step (T' := T263) (g' := (mkF m 42 #[.val (.int p0), .val (.int p1), .val (.int p2), .val (.int p3), .val (.int p4), .val (.int p5), .val (.int ((p0 &&& (2147483647 : Int32)) % (8 : Int32))), .val (.ref x7), .val (.int (1 : Int32)), .val (.int (0 : Int32)), .unset, .unset, .unset, .unset, .unset, .unset, .unset, .unset] [])) (fun _ kk => XS.istore X263.here hx rfl (hb hby at_40) rfl (l' := #[.val (.int p0), .val (.int p1), .val (.int p2), .val (.int p3), .val (.int p4), .val (.int p5), .val (.int ((p0 &&& (2147483647 : Int32)) % (8 : Int32))), .val (.ref x7), .val (.int (1 : Int32)), .val (.int (0 : Int32)), .unset, .unset, .unset, .unset, .unset, .unset, .unset, .unset]) rfl kk) ?_
      refine own_step (T' := T263) (g' := (mkF m 43 #[.val (.int p0), .val (.int p1), .val (.int p2), .val (.int p3), .val (.int p4), .val (.int p5), .val (.int ((p0 &&& (2147483647 : Int32)) % (8 : Int32))), .val (.ref x7), .val (.int (1 : Int32)), .val (.int (0 : Int32)), .unset, .unset, .unset, .unset, .unset, .unset, .unset, .unset] [(.int (2 : Int32))])) (fun _ kk => XS.iconst X263.here hx rfl (hb hby at_42) kk) ?_
      obtain ⟨T372, h372, cA372, X372, e372, E372, A372, st372⟩ := newP X263 hx hZ (aty := .char) (w8 hw) F265 (g := (mkF m 43 #[.val (.int p0), .val (.int p1), .val (.int p2), .val (.int p3), .val (.int p4), .val (.int p5), .val (.int ((p0 &&& (2147483647 : Int32)) % (8 : Int32))), .val (.ref x7), .val (.int (1 : Int32)), .val (.int (0 : Int32)), .unset, .unset, .unset, .unset, .unset, .unset, .unset, .unset] [(.int (2 : Int32))])) rfl (hb hby at_43) rfl (by decide) (cap := 2) (by decide) (by decide) (by decide) (by decide)
      obtain ⟨a371, g372⟩ : ∃ z, z = h0.size := ⟨_, rfl⟩
      rw [← g372] at A372 st372
      have ge373 : Z.heap.size ≤ a371 := by rw [g372]; exact O0.2.1
      have ng374 : h0.size ≤ a371 := by rw [g372]; exact F217.1
      have F375 := Nat.le_trans (Nat.zero_le _) E372.1
      have F376 := O0.ext E372
      have F377 := F217.ext E372
      have F378 : Arv Z h372 a371 cA372 .char (2 : Int32) [] (.int 0) := Arv.new A372 (by decide)
      refine own_step (T' := T372) (g' := (mkF m 45 #[.val (.int p0), .val (.int p1), .val (.int p2), .val (.int p3), .val (.int p4), .val (.int p5), .val (.int ((p0 &&& (2147483647 : Int32)) % (8 : Int32))), .val (.ref x7), .val (.int (1 : Int32)), .val (.int (0 : Int32)), .unset, .unset, .unset, .unset, .unset, .unset, .unset, .unset] [(.ref a371)])) (fun _ kk => st372 _ kk) ?_
      have F379 : Arv Z h372 a371 cA372 .char (2 : Int32) [(.int 0), (.int 0)] (.int 0) := Arv.pad F378 (pad_rep [] (.int 0) 2)
      refine own_step (T' := T372) (g' := (mkF m 46 #[.val (.int p0), .val (.int p1), .val (.int p2), .val (.int p3), .val (.int p4), .val (.int p5), .val (.int ((p0 &&& (2147483647 : Int32)) % (8 : Int32))), .val (.ref x7), .val (.int (1 : Int32)), .val (.int (0 : Int32)), .unset, .unset, .unset, .unset, .unset, .unset, .unset, .unset] [(.ref a371), (.ref a371)])) (fun _ kk => XS.dup X372.here hx rfl (hb hby at_45) rfl rfl kk) ?_
      refine own_step (T' := T372) (g' := (mkF m 47 #[.val (.int p0), .val (.int p1), .val (.int p2), .val (.int p3), .val (.int p4), .val (.int p5), .val (.int ((p0 &&& (2147483647 : Int32)) % (8 : Int32))), .val (.ref x7), .val (.int (1 : Int32)), .val (.int (0 : Int32)), .unset, .unset, .unset, .unset, .unset, .unset, .unset, .unset] [(.int (0 : Int32)), (.ref a371), (.ref a371)])) (fun _ kk => XS.iconst X372.here hx rfl (hb hby at_46) kk) ?_
      refine own_step (T' := T372) (g' := (mkF m 48 #[.val (.int p0), .val (.int p1), .val (.int p2), .val (.int p3), .val (.int p4), .val (.int p5), .val (.int ((p0 &&& (2147483647 : Int32)) % (8 : Int32))), .val (.ref x7), .val (.int (1 : Int32)), .val (.int (0 : Int32)), .unset, .unset, .unset, .unset, .unset, .unset, .unset, .unset] [(.int p2), (.int (0 : Int32)), (.ref a371), (.ref a371)])) (fun _ kk => XS.iloadN X372.here hx rfl (hb hby at_47) rfl kk) ?_
      refine own_step (T' := T372) (g' := (mkF m 51 #[.val (.int p0), .val (.int p1), .val (.int p2), .val (.int p3), .val (.int p4), .val (.int p5), .val (.int ((p0 &&& (2147483647 : Int32)) % (8 : Int32))), .val (.ref x7), .val (.int (1 : Int32)), .val (.int (0 : Int32)), .unset, .unset, .unset, .unset, .unset, .unset, .unset, .unset] [(.int (255 : Int32)), (.int p2), (.int (0 : Int32)), (.ref a371), (.ref a371)])) (fun _ kk => XS.sipush X372.here hx rfl (hb hby at_48) kk) ?_
      refine own_step (T' := T372) (g' := (mkF m 52 #[.val (.int p0), .val (.int p1), .val (.int p2), .val (.int p3), .val (.int p4), .val (.int p5), .val (.int ((p0 &&& (2147483647 : Int32)) % (8 : Int32))), .val (.ref x7), .val (.int (1 : Int32)), .val (.int (0 : Int32)), .unset, .unset, .unset, .unset, .unset, .unset, .unset, .unset] [(.int (p2 &&& (255 : Int32))), (.int (0 : Int32)), (.ref a371), (.ref a371)])) (fun _ kk => XS.iand X372.here hx rfl (hb hby at_51) rfl kk) ?_
      refine own_step (T' := T372) (g' := (mkF m 53 #[.val (.int p0), .val (.int p1), .val (.int p2), .val (.int p3), .val (.int p4), .val (.int p5), .val (.int ((p0 &&& (2147483647 : Int32)) % (8 : Int32))), .val (.ref x7), .val (.int (1 : Int32)), .val (.int (0 : Int32)), .unset, .unset, .unset, .unset, .unset, .unset, .unset, .unset] [(.int ((p2 &&& (255 : Int32)).toUInt32.toUInt16.toUInt32.toInt32)), (.int (0 : Int32)), (.ref a371), (.ref a371)])) (fun _ kk => XS.i2c X372.here hx rfl (hb hby at_52) rfl kk) ?_
      rw [i2c_mask]
      obtain ⟨Ac380, Ar380, q380, Sz380, Nn380, Hs380, Gs380⟩ := F379
      obtain ⟨T380, h380, X380, e380, W380, st380⟩ := stC X372 hx hZ e372 Ar380 (j := (0 : Int32)) (x := (p2 &&& (255 : Int32))) (inb_of Sz380 ⟨by decide, by decide⟩) (g := (mkF m 53 #[.val (.int p0), .val (.int p1), .val (.int p2), .val (.int p3), .val (.int p4), .val (.int p5), .val (.int ((p0 &&& (2147483647 : Int32)) % (8 : Int32))), .val (.ref x7), .val (.int (1 : Int32)), .val (.int (0 : Int32)), .unset, .unset, .unset, .unset, .unset, .unset, .unset, .unset] [(.int (p2 &&& (255 : Int32))), (.int (0 : Int32)), (.ref a371), (.ref a371)])) rfl rfl (hb hby at_53)
      have F381 := Fr.snoc X380 F264 ge373
      have F382 := (Nat.le_trans F375 (Nat.le_of_eq (Wr.size W380).symm))
      have F383 := F376.wr W380 ge373
      have F384 := F377.wr W380 (Or.inr ng374)
      have F385 : Arv Z h380 a371 cA372 .char (2 : Int32) [(.int (p2 &&& (255 : Int32))), (.int 0)] (.int 0) := by
        have q := Arv.set Ar380 q380 Sz380 Nn380 Hs380 Gs380 (fits_nar_char _) W380 0 rfl (Nat.le_of_ble_eq_true rfl)
        rw [own_n255] at q
        exact q
      refine own_step (T' := T380) (g' := (mkF m 54 #[.val (.int p0), .val (.int p1), .val (.int p2), .val (.int p3), .val (.int p4), .val (.int p5), .val (.int ((p0 &&& (2147483647 : Int32)) % (8 : Int32))), .val (.ref x7), .val (.int (1 : Int32)), .val (.int (0 : Int32)), .unset, .unset, .unset, .unset, .unset, .unset, .unset, .unset] [(.ref a371)])) (fun _ kk => st380 _ kk) ?_
      refine own_step (T' := T380) (g' := (mkF m 55 #[.val (.int p0), .val (.int p1), .val (.int p2), .val (.int p3), .val (.int p4), .val (.int p5), .val (.int ((p0 &&& (2147483647 : Int32)) % (8 : Int32))), .val (.ref x7), .val (.int (1 : Int32)), .val (.int (0 : Int32)), .unset, .unset, .unset, .unset, .unset, .unset, .unset, .unset] [(.ref a371), (.ref a371)])) (fun _ kk => XS.dup X380.here hx rfl (hb hby at_54) rfl rfl kk) ?_
      refine own_step (T' := T380) (g' := (mkF m 56 #[.val (.int p0), .val (.int p1), .val (.int p2), .val (.int p3), .val (.int p4), .val (.int p5), .val (.int ((p0 &&& (2147483647 : Int32)) % (8 : Int32))), .val (.ref x7), .val (.int (1 : Int32)), .val (.int (0 : Int32)), .unset, .unset, .unset, .unset, .unset, .unset, .unset, .unset] [(.int (1 : Int32)), (.ref a371), (.ref a371)])) (fun _ kk => XS.iconst X380.here hx rfl (hb hby at_55) kk) ?_
      refine own_step (T' := T380) (g' := (mkF m 57 #[.val (.int p0), .val (.int p1), .val (.int p2), .val (.int p3), .val (.int p4), .val (.int p5), .val (.int ((p0 &&& (2147483647 : Int32)) % (8 : Int32))), .val (.ref x7), .val (.int (1 : Int32)), .val (.int (0 : Int32)), .unset, .unset, .unset, .unset, .unset, .unset, .unset, .unset] [(.int p3), (.int (1 : Int32)), (.ref a371), (.ref a371)])) (fun _ kk => XS.iloadN X380.here hx rfl (hb hby at_56) rfl kk) ?_
      refine own_step (T' := T380) (g' := (mkF m 60 #[.val (.int p0), .val (.int p1), .val (.int p2), .val (.int p3), .val (.int p4), .val (.int p5), .val (.int ((p0 &&& (2147483647 : Int32)) % (8 : Int32))), .val (.ref x7), .val (.int (1 : Int32)), .val (.int (0 : Int32)), .unset, .unset, .unset, .unset, .unset, .unset, .unset, .unset] [(.int (255 : Int32)), (.int p3), (.int (1 : Int32)), (.ref a371), (.ref a371)])) (fun _ kk => XS.sipush X380.here hx rfl (hb hby at_57) kk) ?_
      refine own_step (T' := T380) (g' := (mkF m 61 #[.val (.int p0), .val (.int p1), .val (.int p2), .val (.int p3), .val (.int p4), .val (.int p5), .val (.int ((p0 &&& (2147483647 : Int32)) % (8 : Int32))), .val (.ref x7), .val (.int (1 : Int32)), .val (.int (0 : Int32)), .unset, .unset, .unset, .unset, .unset, .unset, .unset, .unset] [(.int (p3 &&& (255 : Int32))), (.int (1 : Int32)), (.ref a371), (.ref a371)])) (fun _ kk => XS.iand X380.here hx rfl (hb hby at_60) rfl kk) ?_
      refine own_step (T' := T380) (g' := (mkF m 62 #[.val (.int p0), .val (.int p1), .val (.int p2), .val (.int p3), .val (.int p4), .val (.int p5), .val (.int ((p0 &&& (2147483647 : Int32)) % (8 : Int32))), .val (.ref x7), .val (.int (1 : Int32)), .val (.int (0 : Int32)), .unset, .unset, .unset, .unset, .unset, .unset, .unset, .unset] [(.int ((p3 &&& (255 : Int32)).toUInt32.toUInt16.toUInt32.toInt32)), (.int (1 : Int32)), (.ref a371), (.ref a371)])) (fun _ kk => XS.i2c X380.here hx rfl (hb hby at_61) rfl kk) ?_
      rw [i2c_mask]
      obtain ⟨Ac386, Ar386, q386, Sz386, Nn386, Hs386, Gs386⟩ := F385
      obtain ⟨T386, h386, X386, e386, W386, st386⟩ := stC X380 hx hZ e380 Ar386 (j := (1 : Int32)) (x := (p3 &&& (255 : Int32))) (inb_of Sz386 ⟨by decide, by decide⟩) (g := (mkF m 62 #[.val (.int p0), .val (.int p1), .val (.int p2), .val (.int p3), .val (.int p4), .val (.int p5), .val (.int ((p0 &&& (2147483647 : Int32)) % (8 : Int32))), .val (.ref x7), .val (.int (1 : Int32)), .val (.int (0 : Int32)), .unset, .unset, .unset, .unset, .unset, .unset, .unset, .unset] [(.int (p3 &&& (255 : Int32))), (.int (1 : Int32)), (.ref a371), (.ref a371)])) rfl rfl (hb hby at_62)
      have F387 := Fr.snoc X386 F381 ge373
      have F388 := (Nat.le_trans F382 (Nat.le_of_eq (Wr.size W386).symm))
      have F389 := F383.wr W386 ge373
      have F390 := F384.wr W386 (Or.inr ng374)
      have F391 : Arv Z h386 a371 cA372 .char (2 : Int32) [(.int (p2 &&& (255 : Int32))), (.int (p3 &&& (255 : Int32)))] (.int 0) := by
        have q := Arv.set Ar386 q386 Sz386 Nn386 Hs386 Gs386 (fits_nar_char _) W386 1 rfl (Nat.le_of_ble_eq_true rfl)
        rw [own_n255] at q
        exact q
      refine own_step (T' := T386) (g' := (mkF m 63 #[.val (.int p0), .val (.int p1), .val (.int p2), .val (.int p3), .val (.int p4), .val (.int p5), .val (.int ((p0 &&& (2147483647 : Int32)) % (8 : Int32))), .val (.ref x7), .val (.int (1 : Int32)), .val (.int (0 : Int32)), .unset, .unset, .unset, .unset, .unset, .unset, .unset, .unset] [(.ref a371)])) (fun _ kk => st386 _ kk) ?_
      refine own_step (T' := T386) (g' := (mkF m 65 #[.val (.int p0), .val (.int p1), .val (.int p2), .val (.int p3), .val (.int p4), .val (.int p5), .val (.int ((p0 &&& (2147483647 : Int32)) % (8 : Int32))), .val (.ref x7), .val (.int (1 : Int32)), .val (.int (0 : Int32)), .val (.ref a371), .unset, .unset, .unset, .unset, .unset, .unset, .unset] [])) (fun _ kk => XS.astore X386.here hx rfl (hb hby at_63) rfl rfl (l' := #[.val (.int p0), .val (.int p1), .val (.int p2), .val (.int p3), .val (.int p4), .val (.int p5), .val (.int ((p0 &&& (2147483647 : Int32)) % (8 : Int32))), .val (.ref x7), .val (.int (1 : Int32)), .val (.int (0 : Int32)), .val (.ref a371), .unset, .unset, .unset, .unset, .unset, .unset, .unset]) rfl kk) ?_
      obtain ⟨T393, h393, X393, e393, E393, A393, D393, U393, st393⟩ := newO X386 hx hZ hown (w9 hw) (w10 hw) (w11 hw) e386 (g := (mkF m 65 #[.val (.int p0), .val (.int p1), .val (.int p2), .val (.int p3), .val (.int p4), .val (.int p5), .val (.int ((p0 &&& (2147483647 : Int32)) % (8 : Int32))), .val (.ref x7), .val (.int (1 : Int32)), .val (.int (0 : Int32)), .val (.ref a371), .unset, .unset, .unset, .unset, .unset, .unset, .unset] [])) rfl (hb hby at_65) (by decide) (by decide)
      obtain ⟨a392, g393⟩ : ∃ z, z = h386.size := ⟨_, rfl⟩
      rw [← g393] at A393 D393 U393 st393
      have ne394 : a371 ≠ a392 := Nat.ne_of_lt (by rw [g393]; exact F391.lt)
      have ge395 : Z.heap.size ≤ a392 := by rw [g393]; exact F389.2.1
      have ng396 : h0.size ≤ a392 := by rw [g393]; exact F390.1
      have F397 := F391.ext E393
      have F398 := Nat.le_trans F388 E393.1
      have F399 := F389.ext E393
      have F400 := F390.ext E393
      have F401 : own_Obj Z h393 a392 "java/lang/String" := own_Obj.new A393 U393
      refine own_step (T' := T393) (g' := (mkF m 68 #[.val (.int p0), .val (.int p1), .val (.int p2), .val (.int p3), .val (.int p4), .val (.int p5), .val (.int ((p0 &&& (2147483647 : Int32)) % (8 : Int32))), .val (.ref x7), .val (.int (1 : Int32)), .val (.int (0 : Int32)), .val (.ref a371), .unset, .unset, .unset, .unset, .unset, .unset, .unset] [(.ref a392)])) (fun _ kk => st393 _ kk) ?_
      refine own_step (T' := T393) (g' := (mkF m 69 #[.val (.int p0), .val (.int p1), .val (.int p2), .val (.int p3), .val (.int p4), .val (.int p5), .val (.int ((p0 &&& (2147483647 : Int32)) % (8 : Int32))), .val (.ref x7), .val (.int (1 : Int32)), .val (.int (0 : Int32)), .val (.ref a371), .unset, .unset, .unset, .unset, .unset, .unset, .unset] [(.ref a392), (.ref a392)])) (fun _ kk => XS.dup X393.here hx rfl (hb hby at_68) rfl rfl kk) ?_
      refine own_step (T' := T393) (g' := (mkF m 71 #[.val (.int p0), .val (.int p1), .val (.int p2), .val (.int p3), .val (.int p4), .val (.int p5), .val (.int ((p0 &&& (2147483647 : Int32)) % (8 : Int32))), .val (.ref x7), .val (.int (1 : Int32)), .val (.int (0 : Int32)), .val (.ref a371), .unset, .unset, .unset, .unset, .unset, .unset, .unset] [(.ref a371), (.ref a392), (.ref a392)])) (fun _ kk => XS.aload X393.here hx rfl (hb hby at_69) rfl rfl kk) ?_
      obtain ⟨u402, Fu402⟩ := F401.fld (w10 hw) (Or.inr (w37 hw) : Laid Z a0 "java/lang/String" "java/lang/String" "value" "[B")
      obtain ⟨y402, Fy402⟩ := F401.fld (w10 hw) (Or.inr (w35 hw) : Laid Z a0 "java/lang/String" "java/lang/String" "coder" "B")
      obtain ⟨T402, L402, _, h402, X402, e402, ⟨rfl, Nq402, Kq402, Eq402, Cq402, sb402, kb402, ga402, gb402, nb402, Vq402, Aq402⟩, st402⟩ := own_bcallC X393 hx hZ hown rfl (w12 hw) (w13 hw) (w14 hw) (by decide) (a := a392) (g := (mkF m 71 #[.val (.int p0), .val (.int p1), .val (.int p2), .val (.int p3), .val (.int p4), .val (.int p5), .val (.int ((p0 &&& (2147483647 : Int32)) % (8 : Int32))), .val (.ref x7), .val (.int (1 : Int32)), .val (.int (0 : Int32)), .val (.ref a371), .unset, .unset, .unset, .unset, .unset, .unset, .unset] [(.ref a371), (.ref a392), (.ref a392)])) rfl (by rw [hml]; rfl) (argsL := [.ref a371]) (rest := [(.ref a392)]) (StrChars.Road.backV (W := 1) hZ (own_hws hw) (kI := 4) (w10 hw) (cs := [p2 &&& (255 : Int32), p3 &&& (255 : Int32)]) (n := 2) (n0 := Z.heap.size) ge395 (Nat.le_trans F399.2.1 (Nat.le_refl _)) F401.1 Fu402 Fy402 F397 (SC.ext F399.2) hzc rfl rfl (by decide) (by decide) own_hp2 rfl (by decide) (by decide)) e393 pd___C_V rfl rfl (by show 2 * 0 + _ ≤ _; exact Nat.le_of_eq rfl) (hb hby at_71) (by decide) (by decide)
      have F403 := Fr.app F387 Nq402
      have F404 := F397.keep Kq402 (ninS ne394 nin0)
      have F405 := F401.keep Kq402
      have F406 := Nat.le_trans F398 Kq402.1
      have F407 := F399.keep Kq402 (allS ge395 all0)
      have F408 := F400.trans Kq402 (allS (Or.inr ng396) all0)
      refine own_step (T' := T402) (g' := (mkF m 74 #[.val (.int p0), .val (.int p1), .val (.int p2), .val (.int p3), .val (.int p4), .val (.int p5), .val (.int ((p0 &&& (2147483647 : Int32)) % (8 : Int32))), .val (.ref x7), .val (.int (1 : Int32)), .val (.int (0 : Int32)), .val (.ref a371), .unset, .unset, .unset, .unset, .unset, .unset, .unset] [(.ref a392)])) (fun _ kk => st402 _ kk) ?_
      refine own_step (T' := T402) (g' := (mkF m 76 #[.val (.int p0), .val (.int p1), .val (.int p2), .val (.int p3), .val (.int p4), .val (.int p5), .val (.int ((p0 &&& (2147483647 : Int32)) % (8 : Int32))), .val (.ref x7), .val (.int (1 : Int32)), .val (.int (0 : Int32)), .val (.ref a371), .val (.ref a392), .unset, .unset, .unset, .unset, .unset, .unset] [])) (fun _ kk => XS.astore X402.here hx rfl (hb hby at_74) rfl rfl (l' := #[.val (.int p0), .val (.int p1), .val (.int p2), .val (.int p3), .val (.int p4), .val (.int p5), .val (.int ((p0 &&& (2147483647 : Int32)) % (8 : Int32))), .val (.ref x7), .val (.int (1 : Int32)), .val (.int (0 : Int32)), .val (.ref a371), .val (.ref a392), .unset, .unset, .unset, .unset, .unset, .unset]) rfl kk) ?_
      refine own_step (T' := T402) (g' := (mkF m 78 #[.val (.int p0), .val (.int p1), .val (.int p2), .val (.int p3), .val (.int p4), .val (.int p5), .val (.int ((p0 &&& (2147483647 : Int32)) % (8 : Int32))), .val (.ref x7), .val (.int (1 : Int32)), .val (.int (0 : Int32)), .val (.ref a371), .val (.ref a392), .unset, .unset, .unset, .unset, .unset, .unset] [(.int (1 : Int32))])) (fun _ kk => XS.iload X402.here hx rfl (hb hby at_76) rfl kk) ?_
      refine own_step (T' := T402) (g' := (mkF m 81 #[.val (.int p0), .val (.int p1), .val (.int p2), .val (.int p3), .val (.int p4), .val (.int p5), .val (.int ((p0 &&& (2147483647 : Int32)) % (8 : Int32))), .val (.ref x7), .val (.int (1 : Int32)), .val (.int (0 : Int32)), .val (.ref a371), .val (.ref a392), .unset, .unset, .unset, .unset, .unset, .unset] [])) (fun _ kk => XS.ifNo X402.here hx rfl (hb hby at_78) rfl ((if0 _ _).trans (feq (by decide)).1) kk) ?_
      refine own_step (T' := T402) (g' := (mkF m 82 #[.val (.int p0), .val (.int p1), .val (.int p2), .val (.int p3), .val (.int p4), .val (.int p5), .val (.int ((p0 &&& (2147483647 : Int32)) % (8 : Int32))), .val (.ref x7), .val (.int (1 : Int32)), .val (.int (0 : Int32)), .val (.ref a371), .val (.ref a392), .unset, .unset, .unset, .unset, .unset, .unset] [.null])) (fun _ kk => XS.aconstNull X402.here hx rfl (hb hby at_81) kk) ?_
      refine own_step (T' := T402) (g' := (mkF m 97 #[.val (.int p0), .val (.int p1), .val (.int p2), .val (.int p3), .val (.int p4), .val (.int p5), .val (.int ((p0 &&& (2147483647 : Int32)) % (8 : Int32))), .val (.ref x7), .val (.int (1 : Int32)), .val (.int (0 : Int32)), .val (.ref a371), .val (.ref a392), .unset, .unset, .unset, .unset, .unset, .unset] [.null])) (fun _ kk => XS.goto X402.here hx rfl (pc0 := 82) (pc' := 97) rfl (hb hby at_82) (by decide) (by decide) kk) ?_
      refine own_step (T' := T402) (g' := (mkF m 99 #[.val (.int p0), .val (.int p1), .val (.int p2), .val (.int p3), .val (.int p4), .val (.int p5), .val (.int ((p0 &&& (2147483647 : Int32)) % (8 : Int32))), .val (.ref x7), .val (.int (1 : Int32)), .val (.int (0 : Int32)), .val (.ref a371), .val (.ref a392), .val .null, .unset, .unset, .unset, .unset, .unset] [])) (fun _ kk => XS.astore X402.here hx rfl (hb hby at_97) rfl rfl (l' := #[.val (.int p0), .val (.int p1), .val (.int p2), .val (.int p3), .val (.int p4), .val (.int p5), .val (.int ((p0 &&& (2147483647 : Int32)) % (8 : Int32))), .val (.ref x7), .val (.int (1 : Int32)), .val (.int (0 : Int32)), .val (.ref a371), .val (.ref a392), .val .null, .unset, .unset, .unset, .unset, .unset]) rfl kk) ?_
      refine own_step (T' := T402) (g' := (mkF m 101 #[.val (.int p0), .val (.int p1), .val (.int p2), .val (.int p3), .val (.int p4), .val (.int p5), .val (.int ((p0 &&& (2147483647 : Int32)) % (8 : Int32))), .val (.ref x7), .val (.int (1 : Int32)), .val (.int (0 : Int32)), .val (.ref a371), .val (.ref a392), .val .null, .unset, .unset, .unset, .unset, .unset] [(.int (1 : Int32))])) (fun _ kk => XS.iload X402.here hx rfl (hb hby at_99) rfl kk) ?_
      refine own_step (T' := T402) (g' := (mkF m 104 #[.val (.int p0), .val (.int p1), .val (.int p2), .val (.int p3), .val (.int p4), .val (.int p5), .val (.int ((p0 &&& (2147483647 : Int32)) % (8 : Int32))), .val (.ref x7), .val (.int (1 : Int32)), .val (.int (0 : Int32)), .val (.ref a371), .val (.ref a392), .val .null, .unset, .unset, .unset, .unset, .unset] [])) (fun _ kk => XS.ifNo X402.here hx rfl (hb hby at_101) rfl ((if0 _ _).trans (feq (by decide)).1) kk) ?_
      refine own_step (T' := T402) (g' := (mkF m 105 #[.val (.int p0), .val (.int p1), .val (.int p2), .val (.int p3), .val (.int p4), .val (.int p5), .val (.int ((p0 &&& (2147483647 : Int32)) % (8 : Int32))), .val (.ref x7), .val (.int (1 : Int32)), .val (.int (0 : Int32)), .val (.ref a371), .val (.ref a392), .val .null, .unset, .unset, .unset, .unset, .unset] [.null])) (fun _ kk => XS.aconstNull X402.here hx rfl (hb hby at_104) kk) ?_
      refine own_step (T' := T402) (g' := (mkF m 117 #[.val (.int p0), .val (.int p1), .val (.int p2), .val (.int p3), .val (.int p4), .val (.int p5), .val (.int ((p0 &&& (2147483647 : Int32)) % (8 : Int32))), .val (.ref x7), .val (.int (1 : Int32)), .val (.int (0 : Int32)), .val (.ref a371), .val (.ref a392), .val .null, .unset, .unset, .unset, .unset, .unset] [.null])) (fun _ kk => XS.goto X402.here hx rfl (pc0 := 105) (pc' := 117) rfl (hb hby at_105) (by decide) (by decide) kk) ?_
      refine own_step (T' := T402) (g' := (mkF m 119 #[.val (.int p0), .val (.int p1), .val (.int p2), .val (.int p3), .val (.int p4), .val (.int p5), .val (.int ((p0 &&& (2147483647 : Int32)) % (8 : Int32))), .val (.ref x7), .val (.int (1 : Int32)), .val (.int (0 : Int32)), .val (.ref a371), .val (.ref a392), .val .null, .val .null, .unset, .unset, .unset, .unset] [])) (fun _ kk => XS.astore X402.here hx rfl (hb hby at_117) rfl rfl (l' := #[.val (.int p0), .val (.int p1), .val (.int p2), .val (.int p3), .val (.int p4), .val (.int p5), .val (.int ((p0 &&& (2147483647 : Int32)) % (8 : Int32))), .val (.ref x7), .val (.int (1 : Int32)), .val (.int (0 : Int32)), .val (.ref a371), .val (.ref a392), .val .null, .val .null, .unset, .unset, .unset, .unset]) rfl kk) ?_
      refine own_step (T' := T402) (g' := (mkF m 120 #[.val (.int p0), .val (.int p1), .val (.int p2), .val (.int p3), .val (.int p4), .val (.int p5), .val (.int ((p0 &&& (2147483647 : Int32)) % (8 : Int32))), .val (.ref x7), .val (.int (1 : Int32)), .val (.int (0 : Int32)), .val (.ref a371), .val (.ref a392), .val .null, .val .null, .unset, .unset, .unset, .unset] [(.int p1)])) (fun _ kk => XS.iloadN X402.here hx rfl (hb hby at_119) rfl kk) ?_
      refine own_step (T' := T402) (g' := (mkF m 121 #[.val (.int p0), .val (.int p1), .val (.int p2), .val (.int p3), .val (.int p4), .val (.int p5), .val (.int ((p0 &&& (2147483647 : Int32)) % (8 : Int32))), .val (.ref x7), .val (.int (1 : Int32)), .val (.int (0 : Int32)), .val (.ref a371), .val (.ref a392), .val .null, .val .null, .unset, .unset, .unset, .unset] [(.int (2 : Int32)), (.int p1)])) (fun _ kk => XS.iconst X402.here hx rfl (hb hby at_120) kk) ?_
      refine own_step (T' := T402) (g' := (mkF m 122 #[.val (.int p0), .val (.int p1), .val (.int p2), .val (.int p3), .val (.int p4), .val (.int p5), .val (.int ((p0 &&& (2147483647 : Int32)) % (8 : Int32))), .val (.ref x7), .val (.int (1 : Int32)), .val (.int (0 : Int32)), .val (.ref a371), .val (.ref a392), .val .null, .val .null, .unset, .unset, .unset, .unset] [(.int (p1 &&& (2 : Int32)))])) (fun _ kk => XS.iand X402.here hx rfl (hb hby at_121) rfl kk) ?_
      by_cases c409 : (p1 &&& (2 : Int32)) = (0 : Int32)
      · refine own_step (T' := T402) (g' := (mkF m 129 #[.val (.int p0), .val (.int p1), .val (.int p2), .val (.int p3), .val (.int p4), .val (.int p5), .val (.int ((p0 &&& (2147483647 : Int32)) % (8 : Int32))), .val (.ref x7), .val (.int (1 : Int32)), .val (.int (0 : Int32)), .val (.ref a371), .val (.ref a392), .val .null, .val .null, .unset, .unset, .unset, .unset] [])) (fun _ kk => XS.ifYes X402.here hx rfl (pc0 := 122) (pc' := 129) rfl (hb hby at_122) rfl ((if0 _ _).trans (teq c409).1) (by decide) (by decide) kk) ?_
        refine own_step (T' := T402) (g' := (mkF m 131 #[.val (.int p0), .val (.int p1), .val (.int p2), .val (.int p3), .val (.int p4), .val (.int p5), .val (.int ((p0 &&& (2147483647 : Int32)) % (8 : Int32))), .val (.ref x7), .val (.int (1 : Int32)), .val (.int (0 : Int32)), .val (.ref a371), .val (.ref a392), .val .null, .val .null, .unset, .unset, .unset, .unset] [(.int p4)])) (fun _ kk => XS.iload X402.here hx rfl (hb hby at_129) rfl kk) ?_
        refine own_step (T' := T402) (g' := (mkF m 132 #[.val (.int p0), .val (.int p1), .val (.int p2), .val (.int p3), .val (.int p4), .val (.int p5), .val (.int ((p0 &&& (2147483647 : Int32)) % (8 : Int32))), .val (.ref x7), .val (.int (1 : Int32)), .val (.int (0 : Int32)), .val (.ref a371), .val (.ref a392), .val .null, .val .null, .unset, .unset, .unset, .unset] [(.long (p4.toInt64))])) (fun _ kk => XS.i2l X402.here hx rfl (hb hby at_131) rfl kk) ?_
        obtain ⟨T410, L410, _, h410, X410, e410, ⟨uv, rfl, ru, cu, Nl, Kl⟩, st410⟩ := own_callS X402 hx hZ hown (w107 hw) (w108 hw) (w110 hw) (w109 hw) (by decide) (g := (mkF m 132 #[.val (.int p0), .val (.int p1), .val (.int p2), .val (.int p3), .val (.int p4), .val (.int p5), .val (.int ((p0 &&& (2147483647 : Int32)) % (8 : Int32))), .val (.ref x7), .val (.int (1 : Int32)), .val (.int (0 : Int32)), .val (.ref a371), .val (.ref a392), .val .null, .val .null, .unset, .unset, .unset, .unset] [(.long (p4.toInt64))])) rfl (by rw [hml]; rfl) (argsL := [(.long (p4.toInt64))]) (rest := []) (rm_lv l Z a0 hw (p4.toInt64) ca cl _ F407 SL AL hin hcache) e402 pd__J_Ljava_lang_Long_ rfl rfl (W := 0) (by show 2 * 0 + _ ≤ _; exact Nat.le_of_eq rfl) (hb hby at_132) (by decide) (by decide) (by decide) (by decide)
        have F411 := Fr.app F403 Nl
        have F412 := Nat.le_trans F406 Kl.1
        have F413 := F407.keep Kl all0
        have F414 := F408.trans Kl all0
        refine own_step (T' := T410) (g' := (mkF m 135 #[.val (.int p0), .val (.int p1), .val (.int p2), .val (.int p3), .val (.int p4), .val (.int p5), .val (.int ((p0 &&& (2147483647 : Int32)) % (8 : Int32))), .val (.ref x7), .val (.int (1 : Int32)), .val (.int (0 : Int32)), .val (.ref a371), .val (.ref a392), .val .null, .val .null, .unset, .unset, .unset, .unset] [uv])) (fun _ kk => st410 _ kk) ?_
        refine own_step (T' := T410) (g' := (mkF m 137 #[.val (.int p0), .val (.int p1), .val (.int p2), .val (.int p3), .val (.int p4), .val (.int p5), .val (.int ((p0 &&& (2147483647 : Int32)) % (8 : Int32))), .val (.ref x7), .val (.int (1 : Int32)), .val (.int (0 : Int32)), .val (.ref a371), .val (.ref a392), .val .null, .val .null, .val uv, .unset, .unset, .unset] [])) (fun _ kk => XS.astore X410.here hx rfl (hb hby at_135) rfl ru (l' := #[.val (.int p0), .val (.int p1), .val (.int p2), .val (.int p3), .val (.int p4), .val (.int p5), .val (.int ((p0 &&& (2147483647 : Int32)) % (8 : Int32))), .val (.ref x7), .val (.int (1 : Int32)), .val (.int (0 : Int32)), .val (.ref a371), .val (.ref a392), .val .null, .val .null, .val uv, .unset, .unset, .unset]) (XS.store1 (o := .unset) rfl (Or.inl rfl) cu) kk) ?_
        exact seg _ _ _ _ _ _ _ _ _ _ _ _ _ _ (X410.mono (by decide) (by decide)) e410 hZ hown hS0 F412 F411 F413 PX rfl rfl rfl rfl ru cu (Or.inl ⟨rfl, rfl⟩)
      · refine own_step (T' := T402) (g' := (mkF m 125 #[.val (.int p0), .val (.int p1), .val (.int p2), .val (.int p3), .val (.int p4), .val (.int p5), .val (.int ((p0 &&& (2147483647 : Int32)) % (8 : Int32))), .val (.ref x7), .val (.int (1 : Int32)), .val (.int (0 : Int32)), .val (.ref a371), .val (.ref a392), .val .null, .val .null, .unset, .unset, .unset, .unset] [])) (fun _ kk => XS.ifNo X402.here hx rfl (hb hby at_122) rfl ((if0 _ _).trans (feq c409).1) kk) ?_
        refine own_step (T' := T402) (g' := (mkF m 126 #[.val (.int p0), .val (.int p1), .val (.int p2), .val (.int p3), .val (.int p4), .val (.int p5), .val (.int ((p0 &&& (2147483647 : Int32)) % (8 : Int32))), .val (.ref x7), .val (.int (1 : Int32)), .val (.int (0 : Int32)), .val (.ref a371), .val (.ref a392), .val .null, .val .null, .unset, .unset, .unset, .unset] [.null])) (fun _ kk => XS.aconstNull X402.here hx rfl (hb hby at_125) kk) ?_
        refine own_step (T' := T402) (g' := (mkF m 135 #[.val (.int p0), .val (.int p1), .val (.int p2), .val (.int p3), .val (.int p4), .val (.int p5), .val (.int ((p0 &&& (2147483647 : Int32)) % (8 : Int32))), .val (.ref x7), .val (.int (1 : Int32)), .val (.int (0 : Int32)), .val (.ref a371), .val (.ref a392), .val .null, .val .null, .unset, .unset, .unset, .unset] [.null])) (fun _ kk => XS.goto X402.here hx rfl (pc0 := 126) (pc' := 135) rfl (hb hby at_126) (by decide) (by decide) kk) ?_
        refine own_step (T' := T402) (g' := (mkF m 137 #[.val (.int p0), .val (.int p1), .val (.int p2), .val (.int p3), .val (.int p4), .val (.int p5), .val (.int ((p0 &&& (2147483647 : Int32)) % (8 : Int32))), .val (.ref x7), .val (.int (1 : Int32)), .val (.int (0 : Int32)), .val (.ref a371), .val (.ref a392), .val .null, .val .null, .val .null, .unset, .unset, .unset] [])) (fun _ kk => XS.astore X402.here hx rfl (hb hby at_135) rfl rfl (l' := #[.val (.int p0), .val (.int p1), .val (.int p2), .val (.int p3), .val (.int p4), .val (.int p5), .val (.int ((p0 &&& (2147483647 : Int32)) % (8 : Int32))), .val (.ref x7), .val (.int (1 : Int32)), .val (.int (0 : Int32)), .val (.ref a371), .val (.ref a392), .val .null, .val .null, .val .null, .unset, .unset, .unset]) rfl kk) ?_
        exact seg _ _ _ _ _ _ _ _ _ _ _ _ _ _ (X402.mono (by decide) (by decide)) e402 hZ hown hS0 F406 F403 F407 PX rfl rfl rfl rfl rfl rfl (Or.inl ⟨rfl, rfl⟩)
    · refine own_step (T' := T263) (g' := (mkF m 35 #[.val (.int p0), .val (.int p1), .val (.int p2), .val (.int p3), .val (.int p4), .val (.int p5), .val (.int ((p0 &&& (2147483647 : Int32)) % (8 : Int32))), .val (.ref x7), .val (.int (1 : Int32)), .unset, .unset, .unset, .unset, .unset, .unset, .unset, .unset, .unset] [])) (fun _ kk => XS.ifNo X263.here hx rfl (hb hby at_32) rfl ((if0 _ _).trans (feq c370).1) kk) ?_
      refine own_step (T' := T263) (g' := (mkF m 36 #[.val (.int p0), .val (.int p1), .val (.int p2), .val (.int p3), .val (.int p4), .val (.int p5), .val (.int ((p0 &&& (2147483647 : Int32)) % (8 : Int32))), .val (.ref x7), .val (.int (1 : Int32)), .unset, .unset, .unset, .unset, .unset, .unset, .unset, .unset, .unset] [(.int (1 : Int32))])) (fun _ kk => XS.iconst X263.here hx rfl (hb hby at_35) kk) ?_
      refine own_step (T' := T263) (g' := (mkF m 40 #[.val (.int p0), .val (.int p1), .val (.int p2), .val (.int p3), .val (.int p4), .val (.int p5), .val (.int ((p0 &&& (2147483647 : Int32)) % (8 : Int32))), .val (.ref x7), .val (.int (1 : Int32)), .unset, .unset, .unset, .unset, .unset, .unset, .unset, .unset, .unset] [(.int (1 : Int32))])) (fun _ kk => XS.goto X263.here hx rfl (pc0 := 36) (pc' := 40) rfl (hb hby at_36) (by decide) (by decide) kk) ?_
      refine own_step (T' := T263) (g' := (mkF m 42 #[.val (.int p0), .val (.int p1), .val (.int p2), .val (.int p3), .val (.int p4), .val (.int p5), .val (.int ((p0 &&& (2147483647 : Int32)) % (8 : Int32))), .val (.ref x7), .val (.int (1 : Int32)), .val (.int (1 : Int32)), .unset, .unset, .unset, .unset, .unset, .unset, .unset, .unset] [])) (fun _ kk => XS.istore X263.here hx rfl (hb hby at_40) rfl (l' := #[.val (.int p0), .val (.int p1), .val (.int p2), .val (.int p3), .val (.int p4), .val (.int p5), .val (.int ((p0 &&& (2147483647 : Int32)) % (8 : Int32))), .val (.ref x7), .val (.int (1 : Int32)), .val (.int (1 : Int32)), .unset, .unset, .unset, .unset, .unset, .unset, .unset, .unset]) rfl kk) ?_
      refine own_step (T' := T263) (g' := (mkF m 43 #[.val (.int p0), .val (.int p1), .val (.int p2), .val (.int p3), .val (.int p4), .val (.int p5), .val (.int ((p0 &&& (2147483647 : Int32)) % (8 : Int32))), .val (.ref x7), .val (.int (1 : Int32)), .val (.int (1 : Int32)), .unset, .unset, .unset, .unset, .unset, .unset, .unset, .unset] [(.int (2 : Int32))])) (fun _ kk => XS.iconst X263.here hx rfl (hb hby at_42) kk) ?_
      obtain ⟨T416, h416, cA416, X416, e416, E416, A416, st416⟩ := newP X263 hx hZ (aty := .char) (w8 hw) F265 (g := (mkF m 43 #[.val (.int p0), .val (.int p1), .val (.int p2), .val (.int p3), .val (.int p4), .val (.int p5), .val (.int ((p0 &&& (2147483647 : Int32)) % (8 : Int32))), .val (.ref x7), .val (.int (1 : Int32)), .val (.int (1 : Int32)), .unset, .unset, .unset, .unset, .unset, .unset, .unset, .unset] [(.int (2 : Int32))])) rfl (hb hby at_43) rfl (by decide) (cap := 2) (by decide) (by decide) (by decide) (by decide)
      obtain ⟨a415, g416⟩ : ∃ z, z = h0.size := ⟨_, rfl⟩
      rw [← g416] at A416 st416
      have ge417 : Z.heap.size ≤ a415 := by rw [g416]; exact O0.2.1
      have ng418 : h0.size ≤ a415 := by rw [g416]; exact F217.1
      have F419 := Nat.le_trans (Nat.zero_le _) E416.1
      have F420 := O0.ext E416
      have F421 := F217.ext E416
      have F422 : Arv Z h416 a415 cA416 .char (2 : Int32) [] (.int 0) := Arv.new A416 (by decide)
      refine own_step (T' := T416) (g' := (mkF m 45 #[.val (.int p0), .val (.int p1), .val (.int p2), .val (.int p3), .val (.int p4), .val (.int p5), .val (.int ((p0 &&& (2147483647 : Int32)) % (8 : Int32))), .val (.ref x7), .val (.int (1 : Int32)), .val (.int (1 : Int32)), .unset, .unset, .unset, .unset, .unset, .unset, .unset, .unset] [(.ref a415)])) (fun _ kk => st416 _ kk) ?_
      have F423 : Arv Z h416 a415 cA416 .char (2 : Int32) [(.int 0), (.int 0)] (.int 0) := Arv.pad F422 (pad_rep [] (.int 0) 2)
      refine own_step (T' := T416) (g' := (mkF m 46 #[.val (.int p0), .val (.int p1), .val (.int p2), .val (.int p3), .val (.int p4), .val (.int p5), .val (.int ((p0 &&& (2147483647 : Int32)) % (8 : Int32))), .val (.ref x7), .val (.int (1 : Int32)), .val (.int (1 : Int32)), .unset, .unset, .unset, .unset, .unset, .unset, .unset, .unset] [(.ref a415), (.ref a415)])) (fun _ kk => XS.dup X416.here hx rfl (hb hby at_45) rfl rfl kk) ?_
      refine own_step (T' := T416) (g' := (mkF m 47 #[.val (.int p0), .val (.int p1), .val (.int p2), .val (.int p3), .val (.int p4), .val (.int p5), .val (.int ((p0 &&& (2147483647 : Int32)) % (8 : Int32))), .val (.ref x7), .val (.int (1 : Int32)), .val (.int (1 : Int32)), .unset, .unset, .unset, .unset, .unset, .unset, .unset, .unset] [(.int (0 : Int32)), (.ref a415), (.ref a415)])) (fun _ kk => XS.iconst X416.here hx rfl (hb hby at_46) kk) ?_
      refine own_step (T' := T416) (g' := (mkF m 48 #[.val (.int p0), .val (.int p1), .val (.int p2), .val (.int p3), .val (.int p4), .val (.int p5), .val (.int ((p0 &&& (2147483647 : Int32)) % (8 : Int32))), .val (.ref x7), .val (.int (1 : Int32)), .val (.int (1 : Int32)), .unset, .unset, .unset, .unset, .unset, .unset, .unset, .unset] [(.int p2), (.int (0 : Int32)), (.ref a415), (.ref a415)])) (fun _ kk => XS.iloadN X416.here hx rfl (hb hby at_47) rfl kk) ?_
      refine own_step (T' := T416) (g' := (mkF m 51 #[.val (.int p0), .val (.int p1), .val (.int p2), .val (.int p3), .val (.int p4), .val (.int p5), .val (.int ((p0 &&& (2147483647 : Int32)) % (8 : Int32))), .val (.ref x7), .val (.int (1 : Int32)), .val (.int (1 : Int32)), .unset, .unset, .unset, .unset, .unset, .unset, .unset, .unset] [(.int (255 : Int32)), (.int p2), (.int (0 : Int32)), (.ref a415), (.ref a415)])) (fun _ kk => XS.sipush X416.here hx rfl (hb hby at_48) kk) ?_
      refine own_step (T' := T416) (g' := (mkF m 52 #[.val (.int p0), .val (.int p1), .val (.int p2), .val (.int p3), .val (.int p4), .val (.int p5), .val (.int ((p0 &&& (2147483647 : Int32)) % (8 : Int32))), .val (.ref x7), .val (.int (1 : Int32)), .val (.int (1 : Int32)), .unset, .unset, .unset, .unset, .unset, .unset, .unset, .unset] [(.int (p2 &&& (255 : Int32))), (.int (0 : Int32)), (.ref a415), (.ref a415)])) (fun _ kk => XS.iand X416.here hx rfl (hb hby at_51) rfl kk) ?_
      refine own_step (T' := T416) (g' := (mkF m 53 #[.val (.int p0), .val (.int p1), .val (.int p2), .val (.int p3), .val (.int p4), .val (.int p5), .val (.int ((p0 &&& (2147483647 : Int32)) % (8 : Int32))), .val (.ref x7), .val (.int (1 : Int32)), .val (.int (1 : Int32)), .unset, .unset, .unset, .unset, .unset, .unset, .unset, .unset] [(.int ((p2 &&& (255 : Int32)).toUInt32.toUInt16.toUInt32.toInt32)), (.int (0 : Int32)), (.ref a415), (.ref a415)])) (fun _ kk => XS.i2c X416.here hx rfl (hb hby at_52) rfl kk) ?_
      rw [i2c_mask]
      obtain ⟨Ac424, Ar424, q424, Sz424, Nn424, Hs424, Gs424⟩ := F423
      obtain ⟨T424, h424, X424, e424, W424, st424⟩ := stC X416 hx hZ e416 Ar424 (j := (0 : Int32)) (x := (p2 &&& (255 : Int32))) (inb_of Sz424 ⟨by decide, by decide⟩) (g := (mkF m 53 #[.val (.int p0), .val (.int p1), .val (.int p2), .val (.int p3), .val (.int p4), .val (.int p5), .val (.int ((p0 &&& (2147483647 : Int32)) % (8 : Int32))), .val (.ref x7), .val (.int (1 : Int32)), .val (.int (1 : Int32)), .unset, .unset, .unset, .unset, .unset, .unset, .unset, .unset] [(.int (p2 &&& (255 : Int32))), (.int (0 : Int32)), (.ref a415), (.ref a415)])) rfl rfl (hb hby at_53)
      have F425 := Fr.snoc X424 F264 ge417
      have F426 := (Nat.le_trans F419 (Nat.le_of_eq (Wr.size W424).symm))
      have F427 := F420.wr W424 ge417
      have F428 := F421.wr W424 (Or.inr ng418)
      have F429 : Arv Z h424 a415 cA416 .char (2 : Int32) [(.int (p2 &&& (255 : Int32))), (.int 0)] (.int 0) := by
        have q := Arv.set Ar424 q424 Sz424 Nn424 Hs424 Gs424 (fits_nar_char _) W424 0 rfl (Nat.le_of_ble_eq_true rfl)
        rw [own_n255] at q
        exact q
      refine own_step (T' := T424) (g' := (mkF m 54 #[.val (.int p0), .val (.int p1), .val (.int p2), .val (.int p3), .val (.int p4), .val (.int p5), .val (.int ((p0 &&& (2147483647 : Int32)) % (8 : Int32))), .val (.ref x7), .val (.int (1 : Int32)), .val (.int (1 : Int32)), .unset, .unset, .unset, .unset, .unset, .unset, .unset, .unset] [(.ref a415)])) (fun _ kk => st424 _ kk) ?_
      refine own_step (T' := T424) (g' := (mkF m 55 #[.val (.int p0), .val (.int p1), .val (.int p2), .val (.int p3), .val (.int p4), .val (.int p5), .val (.int ((p0 &&& (2147483647 : Int32)) % (8 : Int32))), .val (.ref x7), .val (.int (1 : Int32)), .val (.int (1 : Int32)), .unset, .unset, .unset, .unset, .unset, .unset, .unset, .unset] [(.ref a415), (.ref a415)])) (fun _ kk => XS.dup X424.here hx rfl (hb hby at_54) rfl rfl kk) ?_
      refine own_step (T' := T424) (g' := (mkF m 56 #[.val (.int p0), .val (.int p1), .val (.int p2), .val (.int p3), .val (.int p4), .val (.int p5), .val (.int ((p0 &&& (2147483647 : Int32)) % (8 : Int32))), .val (.ref x7), .val (.int (1 : Int32)), .val (.int (1 : Int32)), .unset, .unset, .unset, .unset, .unset, .unset, .unset, .unset] [(.int (1 : Int32)), (.ref a415), (.ref a415)])) (fun _ kk => XS.iconst X424.here hx rfl (hb hby at_55) kk) ?_
      refine own_step (T' := T424) (g' := (mkF m 57 #[.val (.int p0), .val (.int p1), .val (.int p2), .val (.int p3), .val (.int p4), .val (.int p5), .val (.int ((p0 &&& (2147483647 : Int32)) % (8 : Int32))), .val (.ref x7), .val (.int (1 : Int32)), .val (.int (1 : Int32)), .unset, .unset, .unset, .unset, .unset, .unset, .unset, .unset] [(.int p3), (.int (1 : Int32)), (.ref a415), (.ref a415)])) (fun _ kk => XS.iloadN X424.here hx rfl (hb hby at_56) rfl kk) ?_
      refine own_step (T' := T424) (g' := (mkF m 60 #[.val (.int p0), .val (.int p1), .val (.int p2), .val (.int p3), .val (.int p4), .val (.int p5), .val (.int ((p0 &&& (2147483647 : Int32)) % (8 : Int32))), .val (.ref x7), .val (.int (1 : Int32)), .val (.int (1 : Int32)), .unset, .unset, .unset, .unset, .unset, .unset, .unset, .unset] [(.int (255 : Int32)), (.int p3), (.int (1 : Int32)), (.ref a415), (.ref a415)])) (fun _ kk => XS.sipush X424.here hx rfl (hb hby at_57) kk) ?_
      refine own_step (T' := T424) (g' := (mkF m 61 #[.val (.int p0), .val (.int p1), .val (.int p2), .val (.int p3), .val (.int p4), .val (.int p5), .val (.int ((p0 &&& (2147483647 : Int32)) % (8 : Int32))), .val (.ref x7), .val (.int (1 : Int32)), .val (.int (1 : Int32)), .unset, .unset, .unset, .unset, .unset, .unset, .unset, .unset] [(.int (p3 &&& (255 : Int32))), (.int (1 : Int32)), (.ref a415), (.ref a415)])) (fun _ kk => XS.iand X424.here hx rfl (hb hby at_60) rfl kk) ?_
      refine own_step (T' := T424) (g' := (mkF m 62 #[.val (.int p0), .val (.int p1), .val (.int p2), .val (.int p3), .val (.int p4), .val (.int p5), .val (.int ((p0 &&& (2147483647 : Int32)) % (8 : Int32))), .val (.ref x7), .val (.int (1 : Int32)), .val (.int (1 : Int32)), .unset, .unset, .unset, .unset, .unset, .unset, .unset, .unset] [(.int ((p3 &&& (255 : Int32)).toUInt32.toUInt16.toUInt32.toInt32)), (.int (1 : Int32)), (.ref a415), (.ref a415)])) (fun _ kk => XS.i2c X424.here hx rfl (hb hby at_61) rfl kk) ?_
      rw [i2c_mask]
      obtain ⟨Ac430, Ar430, q430, Sz430, Nn430, Hs430, Gs430⟩ := F429
      obtain ⟨T430, h430, X430, e430, W430, st430⟩ := stC X424 hx hZ e424 Ar430 (j := (1 : Int32)) (x := (p3 &&& (255 : Int32))) (inb_of Sz430 ⟨by decide, by decide⟩) (g := (mkF m 62 #[.val (.int p0), .val (.int p1), .val (.int p2), .val (.int p3), .val (.int p4), .val (.int p5), .val (.int ((p0 &&& (2147483647 : Int32)) % (8 : Int32))), .val (.ref x7), .val (.int (1 : Int32)), .val (.int (1 : Int32)), .unset, .unset, .unset, .unset, .unset, .unset, .unset, .unset] [(.int (p3 &&& (255 : Int32))), (.int (1 : Int32)), (.ref a415), (.ref a415)])) rfl rfl (hb hby at_62)
      have F431 := Fr.snoc X430 F425 ge417
      have F432 := (Nat.le_trans F426 (Nat.le_of_eq (Wr.size W430).symm))
      have F433 := F427.wr W430 ge417
      have F434 := F428.wr W430 (Or.inr ng418)
      have F435 : Arv Z h430 a415 cA416 .char (2 : Int32) [(.int (p2 &&& (255 : Int32))), (.int (p3 &&& (255 : Int32)))] (.int 0) := by
        have q := Arv.set Ar430 q430 Sz430 Nn430 Hs430 Gs430 (fits_nar_char _) W430 1 rfl (Nat.le_of_ble_eq_true rfl)
        rw [own_n255] at q
        exact q
      refine own_step (T' := T430) (g' := (mkF m 63 #[.val (.int p0), .val (.int p1), .val (.int p2), .val (.int p3), .val (.int p4), .val (.int p5), .val (.int ((p0 &&& (2147483647 : Int32)) % (8 : Int32))), .val (.ref x7), .val (.int (1 : Int32)), .val (.int (1 : Int32)), .unset, .unset, .unset, .unset, .unset, .unset, .unset, .unset] [(.ref a415)])) (fun _ kk => st430 _ kk) ?_
      refine own_step (T' := T430) (g' := (mkF m 65 #[.val (.int p0), .val (.int p1), .val (.int p2), .val (.int p3), .val (.int p4), .val (.int p5), .val (.int ((p0 &&& (2147483647 : Int32)) % (8 : Int32))), .val (.ref x7), .val (.int (1 : Int32)), .val (.int (1 : Int32)), .val (.ref a415), .unset, .unset, .unset, .unset, .unset, .unset, .unset] [])) (fun _ kk => XS.astore X430.here hx rfl (hb hby at_63) rfl rfl (l' := #[.val (.int p0), .val (.int p1), .val (.int p2), .val (.int p3), .val (.int p4), .val (.int p5), .val (.int ((p0 &&& (2147483647 : Int32)) % (8 : Int32))), .val (.ref x7), .val (.int (1 : Int32)), .val (.int (1 : Int32)), .val (.ref a415), .unset, .unset, .unset, .unset, .unset, .unset, .unset]) rfl kk) ?_
      obtain ⟨T437, h437, X437, e437, E437, A437, D437, U437, st437⟩ := newO X430 hx hZ hown (w9 hw) (w10 hw) (w11 hw) e430 (g := (mkF m 65 #[.val (.int p0), .val (.int p1), .val (.int p2), .val (.int p3), .val (.int p4), .val (.int p5), .val (.int ((p0 &&& (2147483647 : Int32)) % (8 : Int32))), .val (.ref x7), .val (.int (1 : Int32)), .val (.int (1 : Int32)), .val (.ref a415), .unset, .unset, .unset, .unset, .unset, .unset, .unset] [])) rfl (hb hby at_65) (by decide) (by decide)
      obtain ⟨a436, g437⟩ : ∃ z, z = h430.size := ⟨_, rfl⟩
      rw [← g437] at A437 D437 U437 st437
      have ne438 : a415 ≠ a436 := Nat.ne_of_lt (by rw [g437]; exact F435.lt)
      have ge439 : Z.heap.size ≤ a436 := by rw [g437]; exact F433.2.1
      have ng440 : h0.size ≤ a436 := by rw [g437]; exact F434.1
      have F441 := F435.ext E437
      have F442 := Nat.le_trans F432 E437.1
      have F443 := F433.ext E437
      have F444 := F434.ext E437
      have F445 : own_Obj Z h437 a436 "java/lang/String" := own_Obj.new A437 U437
      refine own_step (T' := T437) (g' := (mkF m 68 #[.val (.int p0), .val (.int p1), .val (.int p2), .val (.int p3), .val (.int p4), .val (.int p5), .val (.int ((p0 &&& (2147483647 : Int32)) % (8 : Int32))), .val (.ref x7), .val (.int (1 : Int32)), .val (.int (1 : Int32)), .val (.ref a415), .unset, .unset, .unset, .unset, .unset, .unset, .unset] [(.ref a436)])) (fun _ kk => st437 _ kk) ?_
      refine own_step (T' := T437) (g' := (mkF m 69 #[.val (.int p0), .val (.int p1), .val (.int p2), .val (.int p3), .val (.int p4), .val (.int p5), .val (.int ((p0 &&& (2147483647 : Int32)) % (8 : Int32))), .val (.ref x7), .val (.int (1 : Int32)), .val (.int (1 : Int32)), .val (.ref a415), .unset, .unset, .unset, .unset, .unset, .unset, .unset] [(.ref a436), (.ref a436)])) (fun _ kk => XS.dup X437.here hx rfl (hb hby at_68) rfl rfl kk) ?_
      refine own_step (T' := T437) (g' := (mkF m 71 #[.val (.int p0), .val (.int p1), .val (.int p2), .val (.int p3), .val (.int p4), .val (.int p5), .val (.int ((p0 &&& (2147483647 : Int32)) % (8 : Int32))), .val (.ref x7), .val (.int (1 : Int32)), .val (.int (1 : Int32)), .val (.ref a415), .unset, .unset, .unset, .unset, .unset, .unset, .unset] [(.ref a415), (.ref a436), (.ref a436)])) (fun _ kk => XS.aload X437.here hx rfl (hb hby at_69) rfl rfl kk) ?_
      obtain ⟨u446, Fu446⟩ := F445.fld (w10 hw) (Or.inr (w37 hw) : Laid Z a0 "java/lang/String" "java/lang/String" "value" "[B")
      obtain ⟨y446, Fy446⟩ := F445.fld (w10 hw) (Or.inr (w35 hw) : Laid Z a0 "java/lang/String" "java/lang/String" "coder" "B")
      obtain ⟨T446, L446, _, h446, X446, e446, ⟨rfl, Nq446, Kq446, Eq446, Cq446, sb446, kb446, ga446, gb446, nb446, Vq446, Aq446⟩, st446⟩ := own_bcallC X437 hx hZ hown rfl (w12 hw) (w13 hw) (w14 hw) (by decide) (a := a436) (g := (mkF m 71 #[.val (.int p0), .val (.int p1), .val (.int p2), .val (.int p3), .val (.int p4), .val (.int p5), .val (.int ((p0 &&& (2147483647 : Int32)) % (8 : Int32))), .val (.ref x7), .val (.int (1 : Int32)), .val (.int (1 : Int32)), .val (.ref a415), .unset, .unset, .unset, .unset, .unset, .unset, .unset] [(.ref a415), (.ref a436), (.ref a436)])) rfl (by rw [hml]; rfl) (argsL := [.ref a415]) (rest := [(.ref a436)]) (StrChars.Road.backV (W := 1) hZ (own_hws hw) (kI := 4) (w10 hw) (cs := [p2 &&& (255 : Int32), p3 &&& (255 : Int32)]) (n := 2) (n0 := Z.heap.size) ge439 (Nat.le_trans F443.2.1 (Nat.le_refl _)) F445.1 Fu446 Fy446 F441 (SC.ext F443.2) hzc rfl rfl (by decide) (by decide) own_hp2 rfl (by decide) (by decide)) e437 pd___C_V rfl rfl (by show 2 * 0 + _ ≤ _; exact Nat.le_of_eq rfl) (hb hby at_71) (by decide) (by decide)
      have F447 := Fr.app F431 Nq446
      have F448 := F441.keep Kq446 (ninS ne438 nin0)
      have F449 := F445.keep Kq446
      have F450 := Nat.le_trans F442 Kq446.1
      have F451 := F443.keep Kq446 (allS ge439 all0)
      have F452 := F444.trans Kq446 (allS (Or.inr ng440) all0)
      refine own_step (T' := T446) (g' := (mkF m 74 #[.val (.int p0), .val (.int p1), .val (.int p2), .val (.int p3), .val (.int p4), .val (.int p5), .val (.int ((p0 &&& (2147483647 : Int32)) % (8 : Int32))), .val (.ref x7), .val (.int (1 : Int32)), .val (.int (1 : Int32)), .val (.ref a415), .unset, .unset, .unset, .unset, .unset, .unset, .unset] [(.ref a436)])) (fun _ kk => st446 _ kk) ?_
      refine own_step (T' := T446) (g' := (mkF m 76 #[.val (.int p0), .val (.int p1), .val (.int p2), .val (.int p3), .val (.int p4), .val (.int p5), .val (.int ((p0 &&& (2147483647 : Int32)) % (8 : Int32))), .val (.ref x7), .val (.int (1 : Int32)), .val (.int (1 : Int32)), .val (.ref a415), .val (.ref a436), .unset, .unset, .unset, .unset, .unset, .unset] [])) (fun _ kk => XS.astore X446.here hx rfl (hb hby at_74) rfl rfl (l' := #[.val (.int p0), .val (.int p1), .val (.int p2), .val (.int p3), .val (.int p4), .val (.int p5), .val (.int ((p0 &&& (2147483647 : Int32)) % (8 : Int32))), .val (.ref x7), .val (.int (1 : Int32)), .val (.int (1 : Int32)), .val (.ref a415), .val (.ref a436), .unset, .unset, .unset, .unset, .unset, .unset]) rfl kk) ?_
      refine own_step (T' := T446) (g' := (mkF m 78 #[.val (.int p0), .val (.int p1), .val (.int p2), .val (.int p3), .val (.int p4), .val (.int p5), .val (.int ((p0 &&& (2147483647 : Int32)) % (8 : Int32))), .val (.ref x7), .val (.int (1 : Int32)), .val (.int (1 : Int32)), .val (.ref a415), .val (.ref a436), .unset, .unset, .unset, .unset, .unset, .unset] [(.int (1 : Int32))])) (fun _ kk => XS.iload X446.here hx rfl (hb hby at_76) rfl kk) ?_
      refine own_step (T' := T446) (g' := (mkF m 81 #[.val (.int p0), .val (.int p1), .val (.int p2), .val (.int p3), .val (.int p4), .val (.int p5), .val (.int ((p0 &&& (2147483647 : Int32)) % (8 : Int32))), .val (.ref x7), .val (.int (1 : Int32)), .val (.int (1 : Int32)), .val (.ref a415), .val (.ref a436), .unset, .unset, .unset, .unset, .unset, .unset] [])) (fun _ kk => XS.ifNo X446.here hx rfl (hb hby at_78) rfl ((if0 _ _).trans (feq (by decide)).1) kk) ?_
      refine own_step (T' := T446) (g' := (mkF m 82 #[.val (.int p0), .val (.int p1), .val (.int p2), .val (.int p3), .val (.int p4), .val (.int p5), .val (.int ((p0 &&& (2147483647 : Int32)) % (8 : Int32))), .val (.ref x7), .val (.int (1 : Int32)), .val (.int (1 : Int32)), .val (.ref a415), .val (.ref a436), .unset, .unset, .unset, .unset, .unset, .unset] [.null])) (fun _ kk => XS.aconstNull X446.here hx rfl (hb hby at_81) kk) ?_
      refine own_step (T' := T446) (g' := (mkF m 97 #[.val (.int p0), .val (.int p1), .val (.int p2), .val (.int p3), .val (.int p4), .val (.int p5), .val (.int ((p0 &&& (2147483647 : Int32)) % (8 : Int32))), .val (.ref x7), .val (.int (1 : Int32)), .val (.int (1 : Int32)), .val (.ref a415), .val (.ref a436), .unset, .unset, .unset, .unset, .unset, .unset] [.null])) (fun _ kk => XS.goto X446.here hx rfl (pc0 := 82) (pc' := 97) rfl (hb hby at_82) (by decide) (by decide) kk) ?_
      refine own_step (T' := T446) (g' := (mkF m 99 #[.val (.int p0), .val (.int p1), .val (.int p2), .val (.int p3), .val (.int p4), .val (.int p5), .val (.int ((p0 &&& (2147483647 : Int32)) % (8 : Int32))), .val (.ref x7), .val (.int (1 : Int32)), .val (.int (1 : Int32)), .val (.ref a415), .val (.ref a436), .val .null, .unset, .unset, .unset, .unset, .unset] [])) (fun _ kk => XS.astore X446.here hx rfl (hb hby at_97) rfl rfl (l' := #[.val (.int p0), .val (.int p1), .val (.int p2), .val (.int p3), .val (.int p4), .val (.int p5), .val (.int ((p0 &&& (2147483647 : Int32)) % (8 : Int32))), .val (.ref x7), .val (.int (1 : Int32)), .val (.int (1 : Int32)), .val (.ref a415), .val (.ref a436), .val .null, .unset, .unset, .unset, .unset, .unset]) rfl kk) ?_
      refine own_step (T' := T446) (g' := (mkF m 101 #[.val (.int p0), .val (.int p1), .val (.int p2), .val (.int p3), .val (.int p4), .val (.int p5), .val (.int ((p0 &&& (2147483647 : Int32)) % (8 : Int32))), .val (.ref x7), .val (.int (1 : Int32)), .val (.int (1 : Int32)), .val (.ref a415), .val (.ref a436), .val .null, .unset, .unset, .unset, .unset, .unset] [(.int (1 : Int32))])) (fun _ kk => XS.iload X446.here hx rfl (hb hby at_99) rfl kk) ?_
      refine own_step (T' := T446) (g' := (mkF m 104 #[.val (.int p0), .val (.int p1), .val (.int p2), .val (.int p3), .val (.int p4), .val (.int p5), .val (.int ((p0 &&& (2147483647 : Int32)) % (8 : Int32))), .val (.ref x7), .val (.int (1 : Int32)), .val (.int (1 : Int32)), .val (.ref a415), .val (.ref a436), .val .null, .unset, .unset, .unset, .unset, .unset] [])) (fun _ kk => XS.ifNo X446.here hx rfl (hb hby at_101) rfl ((if0 _ _).trans (feq (by decide)).1) kk) ?_
      refine own_step (T' := T446) (g' := (mkF m 105 #[.val (.int p0), .val (.int p1), .val (.int p2), .val (.int p3), .val (.int p4), .val (.int p5), .val (.int ((p0 &&& (2147483647 : Int32)) % (8 : Int32))), .val (.ref x7), .val (.int (1 : Int32)), .val (.int (1 : Int32)), .val (.ref a415), .val (.ref a436), .val .null, .unset, .unset, .unset, .unset, .unset] [.null])) (fun _ kk => XS.aconstNull X446.here hx rfl (hb hby at_104) kk) ?_
      refine own_step (T' := T446) (g' := (mkF m 117 #[.val (.int p0), .val (.int p1), .val (.int p2), .val (.int p3), .val (.int p4), .val (.int p5), .val (.int ((p0 &&& (2147483647 : Int32)) % (8 : Int32))), .val (.ref x7), .val (.int (1 : Int32)), .val (.int (1 : Int32)), .val (.ref a415), .val (.ref a436), .val .null, .unset, .unset, .unset, .unset, .unset] [.null])) (fun _ kk => XS.goto X446.here hx rfl (pc0 := 105) (pc' := 117) rfl (hb hby at_105) (by decide) (by decide) kk) ?_
      refine own_step (T' := T446) (g' := (mkF m 119 #[.val (.int p0), .val (.int p1), .val (.int p2), .val (.int p3), .val (.int p4), .val (.int p5), .val (.int ((p0 &&& (2147483647 : Int32)) % (8 : Int32))), .val (.ref x7), .val (.int (1 : Int32)), .val (.int (1 : Int32)), .val (.ref a415), .val (.ref a436), .val .null, .val .null, .unset, .unset, .unset, .unset] [])) (fun _ kk => XS.astore X446.here hx rfl (hb hby at_117) rfl rfl (l' := #[.val (.int p0), .val (.int p1), .val (.int p2), .val (.int p3), .val (.int p4), .val (.int p5), .val (.int ((p0 &&& (2147483647 : Int32)) % (8 : Int32))), .val (.ref x7), .val (.int (1 : Int32)), .val (.int (1 : Int32)), .val (.ref a415), .val (.ref a436), .val .null, .val .null, .unset, .unset, .unset, .unset]) rfl kk) ?_
      refine own_step (T' := T446) (g' := (mkF m 120 #[.val (.int p0), .val (.int p1), .val (.int p2), .val (.int p3), .val (.int p4), .val (.int p5), .val (.int ((p0 &&& (2147483647 : Int32)) % (8 : Int32))), .val (.ref x7), .val (.int (1 : Int32)), .val (.int (1 : Int32)), .val (.ref a415), .val (.ref a436), .val .null, .val .null, .unset, .unset, .unset, .unset] [(.int p1)])) (fun _ kk => XS.iloadN X446.here hx rfl (hb hby at_119) rfl kk) ?_
      refine own_step (T' := T446) (g' := (mkF m 121 #[.val (.int p0), .val (.int p1), .val (.int p2), .val (.int p3), .val (.int p4), .val (.int p5), .val (.int ((p0 &&& (2147483647 : Int32)) % (8 : Int32))), .val (.ref x7), .val (.int (1 : Int32)), .val (.int (1 : Int32)), .val (.ref a415), .val (.ref a436), .val .null, .val .null, .unset, .unset, .unset, .unset] [(.int (2 : Int32)), (.int p1)])) (fun _ kk => XS.iconst X446.here hx rfl (hb hby at_120) kk) ?_
      refine own_step (T' := T446) (g' := (mkF m 122 #[.val (.int p0), .val (.int p1), .val (.int p2), .val (.int p3), .val (.int p4), .val (.int p5), .val (.int ((p0 &&& (2147483647 : Int32)) % (8 : Int32))), .val (.ref x7), .val (.int (1 : Int32)), .val (.int (1 : Int32)), .val (.ref a415), .val (.ref a436), .val .null, .val .null, .unset, .unset, .unset, .unset] [(.int (p1 &&& (2 : Int32)))])) (fun _ kk => XS.iand X446.here hx rfl (hb hby at_121) rfl kk) ?_
      by_cases c453 : (p1 &&& (2 : Int32)) = (0 : Int32)
      · refine own_step (T' := T446) (g' := (mkF m 129 #[.val (.int p0), .val (.int p1), .val (.int p2), .val (.int p3), .val (.int p4), .val (.int p5), .val (.int ((p0 &&& (2147483647 : Int32)) % (8 : Int32))), .val (.ref x7), .val (.int (1 : Int32)), .val (.int (1 : Int32)), .val (.ref a415), .val (.ref a436), .val .null, .val .null, .unset, .unset, .unset, .unset] [])) (fun _ kk => XS.ifYes X446.here hx rfl (pc0 := 122) (pc' := 129) rfl (hb hby at_122) rfl ((if0 _ _).trans (teq c453).1) (by decide) (by decide) kk) ?_
        refine own_step (T' := T446) (g' := (mkF m 131 #[.val (.int p0), .val (.int p1), .val (.int p2), .val (.int p3), .val (.int p4), .val (.int p5), .val (.int ((p0 &&& (2147483647 : Int32)) % (8 : Int32))), .val (.ref x7), .val (.int (1 : Int32)), .val (.int (1 : Int32)), .val (.ref a415), .val (.ref a436), .val .null, .val .null, .unset, .unset, .unset, .unset] [(.int p4)])) (fun _ kk => XS.iload X446.here hx rfl (hb hby at_129) rfl kk) ?_
        refine own_step (T' := T446) (g' := (mkF m 132 #[.val (.int p0), .val (.int p1), .val (.int p2), .val (.int p3), .val (.int p4), .val (.int p5), .val (.int ((p0 &&& (2147483647 : Int32)) % (8 : Int32))), .val (.ref x7), .val (.int (1 : Int32)), .val (.int (1 : Int32)), .val (.ref a415), .val (.ref a436), .val .null, .val .null, .unset, .unset, .unset, .unset] [(.long (p4.toInt64))])) (fun _ kk => XS.i2l X446.here hx rfl (hb hby at_131) rfl kk) ?_
        obtain ⟨T454, L454, _, h454, X454, e454, ⟨uv, rfl, ru, cu, Nl, Kl⟩, st454⟩ := own_callS X446 hx hZ hown (w107 hw) (w108 hw) (w110 hw) (w109 hw) (by decide) (g := (mkF m 132 #[.val (.int p0), .val (.int p1), .val (.int p2), .val (.int p3), .val (.int p4), .val (.int p5), .val (.int ((p0 &&& (2147483647 : Int32)) % (8 : Int32))), .val (.ref x7), .val (.int (1 : Int32)), .val (.int (1 : Int32)), .val (.ref a415), .val (.ref a436), .val .null, .val .null, .unset, .unset, .unset, .unset] [(.long (p4.toInt64))])) rfl (by rw [hml]; rfl) (argsL := [(.long (p4.toInt64))]) (rest := []) (rm_lv l Z a0 hw (p4.toInt64) ca cl _ F451 SL AL hin hcache) e446 pd__J_Ljava_lang_Long_ rfl rfl (W := 0) (by show 2 * 0 + _ ≤ _; exact Nat.le_of_eq rfl) (hb hby at_132) (by decide) (by decide) (by decide) (by decide)
        have F455 := Fr.app F447 Nl
        have F456 := Nat.le_trans F450 Kl.1
        have F457 := F451.keep Kl all0
        have F458 := F452.trans Kl all0
        refine own_step (T' := T454) (g' := (mkF m 135 #[.val (.int p0), .val (.int p1), .val (.int p2), .val (.int p3), .val (.int p4), .val (.int p5), .val (.int ((p0 &&& (2147483647 : Int32)) % (8 : Int32))), .val (.ref x7), .val (.int (1 : Int32)), .val (.int (1 : Int32)), .val (.ref a415), .val (.ref a436), .val .null, .val .null, .unset, .unset, .unset, .unset] [uv])) (fun _ kk => st454 _ kk) ?_
        refine own_step (T' := T454) (g' := (mkF m 137 #[.val (.int p0), .val (.int p1), .val (.int p2), .val (.int p3), .val (.int p4), .val (.int p5), .val (.int ((p0 &&& (2147483647 : Int32)) % (8 : Int32))), .val (.ref x7), .val (.int (1 : Int32)), .val (.int (1 : Int32)), .val (.ref a415), .val (.ref a436), .val .null, .val .null, .val uv, .unset, .unset, .unset] [])) (fun _ kk => XS.astore X454.here hx rfl (hb hby at_135) rfl ru (l' := #[.val (.int p0), .val (.int p1), .val (.int p2), .val (.int p3), .val (.int p4), .val (.int p5), .val (.int ((p0 &&& (2147483647 : Int32)) % (8 : Int32))), .val (.ref x7), .val (.int (1 : Int32)), .val (.int (1 : Int32)), .val (.ref a415), .val (.ref a436), .val .null, .val .null, .val uv, .unset, .unset, .unset]) (XS.store1 (o := .unset) rfl (Or.inl rfl) cu) kk) ?_
        exact seg _ _ _ _ _ _ _ _ _ _ _ _ _ _ (X454.mono (by decide) (by decide)) e454 hZ hown hS0 F456 F455 F457 PX rfl rfl rfl rfl ru cu (Or.inl ⟨rfl, rfl⟩)
      · refine own_step (T' := T446) (g' := (mkF m 125 #[.val (.int p0), .val (.int p1), .val (.int p2), .val (.int p3), .val (.int p4), .val (.int p5), .val (.int ((p0 &&& (2147483647 : Int32)) % (8 : Int32))), .val (.ref x7), .val (.int (1 : Int32)), .val (.int (1 : Int32)), .val (.ref a415), .val (.ref a436), .val .null, .val .null, .unset, .unset, .unset, .unset] [])) (fun _ kk => XS.ifNo X446.here hx rfl (hb hby at_122) rfl ((if0 _ _).trans (feq c453).1) kk) ?_
        refine own_step (T' := T446) (g' := (mkF m 126 #[.val (.int p0), .val (.int p1), .val (.int p2), .val (.int p3), .val (.int p4), .val (.int p5), .val (.int ((p0 &&& (2147483647 : Int32)) % (8 : Int32))), .val (.ref x7), .val (.int (1 : Int32)), .val (.int (1 : Int32)), .val (.ref a415), .val (.ref a436), .val .null, .val .null, .unset, .unset, .unset, .unset] [.null])) (fun _ kk => XS.aconstNull X446.here hx rfl (hb hby at_125) kk) ?_
        refine own_step (T' := T446) (g' := (mkF m 135 #[.val (.int p0), .val (.int p1), .val (.int p2), .val (.int p3), .val (.int p4), .val (.int p5), .val (.int ((p0 &&& (2147483647 : Int32)) % (8 : Int32))), .val (.ref x7), .val (.int (1 : Int32)), .val (.int (1 : Int32)), .val (.ref a415), .val (.ref a436), .val .null, .val .null, .unset, .unset, .unset, .unset] [.null])) (fun _ kk => XS.goto X446.here hx rfl (pc0 := 126) (pc' := 135) rfl (hb hby at_126) (by decide) (by decide) kk) ?_
        refine own_step (T' := T446) (g' := (mkF m 137 #[.val (.int p0), .val (.int p1), .val (.int p2), .val (.int p3), .val (.int p4), .val (.int p5), .val (.int ((p0 &&& (2147483647 : Int32)) % (8 : Int32))), .val (.ref x7), .val (.int (1 : Int32)), .val (.int (1 : Int32)), .val (.ref a415), .val (.ref a436), .val .null, .val .null, .val .null, .unset, .unset, .unset] [])) (fun _ kk => XS.astore X446.here hx rfl (hb hby at_135) rfl rfl (l' := #[.val (.int p0), .val (.int p1), .val (.int p2), .val (.int p3), .val (.int p4), .val (.int p5), .val (.int ((p0 &&& (2147483647 : Int32)) % (8 : Int32))), .val (.ref x7), .val (.int (1 : Int32)), .val (.int (1 : Int32)), .val (.ref a415), .val (.ref a436), .val .null, .val .null, .val .null, .unset, .unset, .unset]) rfl kk) ?_
        exact seg _ _ _ _ _ _ _ _ _ _ _ _ _ _ (X446.mono (by decide) (by decide)) e446 hZ hown hS0 F450 F447 F451 PX rfl rfl rfl rfl rfl rfl (Or.inl ⟨rfl, rfl⟩)
set_option maxRecDepth 65536 in
set_option maxHeartbeats 40000000 in
theorem comes_1 {Post : Tables → Env → Array Value → State → Outcome → State → Prop} (hpost : ∀ tb e args s v u, (limb_1_1.after args s (.returned v) u = true ∧ limb_1_2.after args s (.returned v) u = true ∧ True) → ReturnedEndW s (.returned v) u (Jvm.fieldLocs frame_1_writes args s ++ Jvm.arrayLocs frame_1_arrays args s ++ Jvm.staticLocs frame_1_statics s) 24 1152 → Post tb e args s (.returned v) u) :
    ArmFor flags0 classFile x code maxLocals ret World_1 tables_1 room_1 Calls_1 rest_1 Pre_1 Post := by
  intro l hfl _ _ p e ha hc hk s m args below hf hA hF happ hP
  obtain ⟨hcalls, hrest, hpre⟩ := hP
  obtain ⟨-, -, -, hnamed, -, -, -, hat⟩ := (Spec.applies_iff hf).mp happ
  obtain ⟨hg, hn⟩ := and_e (Cond.before_iff.mp (show (Jvm.Cond.and given_1 narrow_1).before args s = true from hpre))
  obtain ⟨hg1, hg⟩ := and_e hg
  obtain ⟨hg2, hg⟩ := and_e hg
  obtain ⟨hg3, hg⟩ := and_e hg
  obtain ⟨hg4, hg⟩ := and_e hg
  obtain ⟨hg5, hg⟩ := and_e hg
  obtain ⟨hg6, hg⟩ := and_e hg
  have hg7 := hg
  obtain ⟨hn1, hn⟩ := and_e hn
  obtain ⟨hn2, hn⟩ := and_e hn
  obtain ⟨hn3, hn⟩ := and_e hn
  obtain ⟨hn4, hn⟩ := and_e hn
  obtain ⟨hn5, hn⟩ := and_e hn
  obtain ⟨hn6, hn⟩ := and_e hn
  obtain ⟨hn7, hn⟩ := and_e hn
  obtain ⟨hn8, hn⟩ := and_e hn
  obtain ⟨hn9, hn⟩ := and_e hn
  obtain ⟨hn10, hn⟩ := and_e hn
  obtain ⟨hn11, hn⟩ := and_e hn
  obtain ⟨hn12, hn⟩ := and_e hn
  obtain ⟨hn13, hn⟩ := and_e hn
  obtain ⟨hn14, hn⟩ := and_e hn
  obtain ⟨hn15, hn⟩ := and_e hn
  obtain ⟨hn16, hn⟩ := and_e hn
  obtain ⟨hn17, hn⟩ := and_e hn
  obtain ⟨hn18, hn⟩ := and_e hn
  obtain ⟨hn19, hn⟩ := and_e hn
  obtain ⟨hn20, hn⟩ := and_e hn
  obtain ⟨hn21, hn⟩ := and_e hn
  obtain ⟨hn22, hn⟩ := and_e hn
  obtain ⟨hn23, hn⟩ := and_e hn
  have hn24 := hn
  obtain ⟨w0, w1, w2, w3, w4, w5, rfl⟩ : ∃ w0 w1 w2 w3 w4 w5 : Value, args = #[w0, w1, w2, w3, w4, w5] := by
    have hs : args.size = 6 := by simpa [Cond.value, given_1] using hg1
    obtain ⟨L⟩ := args
    match L, hs with
    | [w0, w1, w2, w3, w4, w5], _ => exact ⟨w0, w1, w2, w3, w4, w5, rfl⟩
  have hw := fun d (hd : d ∈ tables_1) => atoms_spec (ws := Jvm.Cond.code x code maxLocals ret :: tables_1) hat d (List.mem_cons_of_mem _ hd)
  have hsets := (atoms_of jdkStatics_1 (show (jdkStatics_1.foldr Jvm.Cond.and restOwn_1).before _ s = true from hrest)).1
  have hfit : Fit s := fun {y c} hc i hi => by
    obtain ⟨ha, rfl⟩ := Array.getElem?_eq_some_iff.mp hc
    have q := List.all_eq_true.mp ((Array.all_eq_true_iff_forall_mem.mp hF) _ (Array.getElem_mem ha)) i (List.mem_range.mpr hi)
    simpa [Array.getElem?_eq_getElem hi] using q
  obtain ⟨i0, e0⟩ := is_v hg2
  obtain rfl : w0 = (.int i0) := Option.some.inj e0
  obtain ⟨i1, e1⟩ := is_v hg3
  obtain rfl : w1 = (.int i1) := Option.some.inj e1
  obtain ⟨i2, e2⟩ := is_v hg4
  obtain rfl : w2 = (.int i2) := Option.some.inj e2
  obtain ⟨i3, e3⟩ := is_v hg5
  obtain rfl : w3 = (.int i3) := Option.some.inj e3
  obtain ⟨i4, e4⟩ := is_v hg6
  obtain rfl : w4 = (.int i4) := Option.some.inj e4
  obtain ⟨i5, e5⟩ := is_v hg7
  obtain rfl : w5 = (.int i5) := Option.some.inj e5
  obtain ⟨o0, ev0⟩ := exa_v hn1
  have E0 := Exa.start ev0 hn1
  have S0 := Sta.start ev0 (Or.inr ⟨(w6 hw), (w7 hw)⟩)
  have F0 : Fld s s.heap o0 "com/example/deltatrace/deltatrace/LogEvent$Op" "onList" "Z" (.int 0) := Fld.start ((fld_at ev0).symm.trans (Cond.eq_int (Cond.before_iff.mpr hn9) rfl))
  obtain ⟨o1, ev1⟩ := exa_v hn22
  have E1 := Exa.start ev1 hn22
  have S1 := Sta.start ev1 (Or.inr ⟨(w6 hw), (w135 hw)⟩)
  have F1 : Fld s s.heap o1 "com/example/deltatrace/deltatrace/LogEvent$Op" "onList" "Z" (.int 0) := Fld.start ((fld_at ev1).symm.trans (Cond.eq_int (Cond.before_iff.mpr hn24) rfl))
  obtain ⟨o2, ev2⟩ := exa_v hn15
  have E2 := Exa.start ev2 hn15
  have S2 := Sta.start ev2 (Or.inr ⟨(w6 hw), (w116 hw)⟩)
  have F2 : Fld s s.heap o2 "com/example/deltatrace/deltatrace/LogEvent$Op" "onList" "Z" (.int 0) := Fld.start ((fld_at ev2).symm.trans (Cond.eq_int (Cond.before_iff.mpr hn17) rfl))
  obtain ⟨o3, ev3⟩ := exa_v hn19
  have E3 := Exa.start ev3 hn19
  have S3 := Sta.start ev3 (Or.inr ⟨(w6 hw), (w133 hw)⟩)
  have F3 : Fld s s.heap o3 "com/example/deltatrace/deltatrace/LogEvent$Op" "onList" "Z" (.int 0) := Fld.start ((fld_at ev3).symm.trans (Cond.eq_int (Cond.before_iff.mpr hn21) rfl))
  obtain ⟨o4, ev4⟩ := exa_v hn10
  have E4 := Exa.start ev4 hn10
  have S4 := Sta.start ev4 (Or.inr ⟨(w6 hw), (w89 hw)⟩)
  have F4 : Fld s s.heap o4 "com/example/deltatrace/deltatrace/LogEvent$Op" "onList" "Z" (.int 0) := Fld.start ((fld_at ev4).symm.trans (Cond.eq_int (Cond.before_iff.mpr hn12) rfl))
  obtain ⟨o5, ev5⟩ := exa_v hn2
  have E5 := Exa.start ev5 hn2
  have S5 := Sta.start ev5 (Or.inr ⟨(w6 hw), (w71 hw)⟩)
  have F5 : Fld s s.heap o5 "com/example/deltatrace/deltatrace/LogEvent$Op" "onList" "Z" (.int 1) := Fld.start ((fld_at ev5).symm.trans (Cond.eq_int (Cond.before_iff.mpr hn13) rfl))
  obtain ⟨o6, ev6⟩ := exa_v hn5
  have E6 := Exa.start ev6 hn5
  have S6 := Sta.start ev6 (Or.inr ⟨(w6 hw), (w73 hw)⟩)
  have F6 : Fld s s.heap o6 "com/example/deltatrace/deltatrace/LogEvent$Op" "onList" "Z" (.int 1) := Fld.start ((fld_at ev6).symm.trans (Cond.eq_int (Cond.before_iff.mpr hn18) rfl))
  obtain ⟨o7, ev7⟩ := exa_v hn7
  have E7 := Exa.start ev7 hn7
  have S7 := Sta.start ev7 (Or.inr ⟨(w6 hw), (w75 hw)⟩)
  have F7 : Fld s s.heap o7 "com/example/deltatrace/deltatrace/LogEvent$Op" "onList" "Z" (.int 1) := Fld.start ((fld_at ev7).symm.trans (Cond.eq_int (Cond.before_iff.mpr hn14) rfl))
  obtain ⟨zc, evc⟩ := is_v (Cond.before_iff.mp (hsets _ (List.mem_of_getElem? (i := 1) rfl)))
  have SC := Sta.start evc (Or.inl (hsets _ (List.mem_of_getElem? (i := 0) rfl)))
  have hzc : ¬ zc = (0 : Int32) := fun q => by
    have h1 := not_v (Cond.before_iff.mp (hsets _ (List.mem_of_getElem? (i := 2) rfl)))
    exact gotF (Cond.eq_ints evc (Term.int_eval 0)) h1 q
  obtain ⟨ca, evl⟩ := arr_v (Cond.before_iff.mp (hsets _ (List.mem_of_getElem? (i := 11) rfl)))
  have SL := Sta.start evl (Or.inl (hsets _ (List.mem_of_getElem? (i := 10) rfl)))
  obtain ⟨cl, AL⟩ := Arr.start evl (Cond.before_iff.mp (hsets _ (List.mem_of_getElem? (i := 11) rfl)))
  have hlen : (Jvm.Term.length (Jvm.Term.static "java/lang/Long$LongCache" "cache" "[Ljava/lang/Long;")).eval _ s none [] s = some (.int 256) := Cond.eq_int (hsets _ (List.mem_of_getElem? (i := 13) rfl)) rfl
  have hsz : cl.slots.size = 256 := own_len (k := 256) evl AL hlen (by decide)
  have hin : ∀ j : Int32, ¬ j < 0 → j < 256 → ¬ (j < 0 ∨ cl.slots.size ≤ j.toNatClampNeg) := fun j h1 h2 => inb_of (z := (256 : Int32)) (by rw [hsz]; decide) ⟨h1, h2⟩
  have hcache : ∀ j : Int32, ¬ j < 0 → j < 256 → ∃ u, cl.slots[j.toNatClampNeg]? = some u ∧ u.isRef = true := fun j h1 h2 => by
    obtain ⟨v, q1, q2⟩ := elem_fit hfit AL (hin j h1 h2)
    exact ⟨v, q1, fit_R q2 rfl⟩
  obtain ⟨n, o, g1, g2, g3, _, L, rfl, ⟨rfl, N⟩, hq⟩ := rm_law l s _ hw i0 i1 i2 i3 i4 i5 zc o0 o1 o2 o3 o4 o5 o6 o7 ca cl s.heap (Old.start s) S0 S1 S2 S3 S4 S5 S6 S7 SC hzc SL AL hin hcache E0 E1 E2 E3 E4 E5 E6 E7 F0 F1 F2 F3 F4 F5 F6 F7 tables_1 p e ha hc hk s m _ below hf ((Spec.applies_iff_loose hf).mp happ).1 ⟨rfl, State.Warmed39.refl s, rfl, trivial⟩ trivial
  refine ⟨n, _, g1, g2, g3, hpost _ _ _ _ _ _ ⟨Cond.after_iff.mpr rfl, Cond.after_iff.mpr (eq_i res_at (Term.int_eval (1)) rfl), trivial⟩ ⟨hq.1, hq.2.1, hq.2.2.1, (hq.2.2.2.sift fun y hy => Or.inr (N y hy)).mono (by decide) (by decide)⟩⟩
theorem main_1_1 : Claimed_1_1 := comes_1 fun _ _ _ _ _ _ h hF => ⟨h.1, hF⟩
theorem main_1_2 : Claimed_1_2 := comes_1 fun _ _ _ _ _ _ h hF => ⟨h.2.1, hF⟩
end Jvm.Pilot.@@N@@
namespace Jvm.Pilot.@@N@@
open Jvm Jvm.ClassFile Sem Op Lib Jvm.Free Jvm.Stand Jvm.Pilot.@@N@@.Jvm.D
/-! MADE BY PROGRAM (witnessworld.py) out of the Statement's table words and the real class files: 27 classes; the members and pool entries that the words name. The judged class is class 1, her method 2. -/
namespace start1
open Jvm.ClassFile
def u (s : String) : CpInfo := .utf8 (stringToUtf16 s)
/-- a pool by its gaps: so many unusable entries, then the entry; so many at the end -/
def gap : Nat → List CpInfo → List CpInfo
  | 0, r => r
  | n + 1, r => .unusable :: gap n r
def poolList (es : List (Nat × CpInfo)) (last : Nat) : List CpInfo := es.foldr (fun e r => gap e.1 (e.2 :: r)) (gap last [])
def pool (es : List (Nat × CpInfo)) (last : Nat) : Array CpInfo := ⟨poolList es last⟩
def fileOf (pool : Array CpInfo) (this : Nat) (attrs : Array Attribute := #[]) (ms : Array MethodInfo := #[]) (fl : Nat := 33) (sup : Nat := 0) (ifs : Array Nat := #[]) (fds : Array FieldInfo := #[]) : ClassFile where
  minorVersion := 0
  majorVersion := 65
  constantPool := pool
  accessFlags := fl
  thisClass := this
  superClass := sup
  interfaces := ifs
  fields := fds
  methods := ms
  attributes := attrs
def plain (name : String) (sup : Option ClassId) : Class where
  name := name
  kind := .ordinary
  loader := none
  accessFlags := 33
  super := sup
  interfaces := #[]
  cf := none
  fields := #[]
  methods := #[]
  instanceTypes := #[]
  staticTypes := #[]
  resolved := #[]
  callSites := []
  init := .initialized
  statics := none
  mirror := none

def pool0 : Array CpInfo := pool [(5, u "<init>"), (0, u "()V"), (1, .class_ 10), (1, u "java/lang/Object")] 113

def k0c0 : Code := { maxStack := 0, maxLocals := 1, code := object_method_1_code, exceptionTable := #[], attributes := #[] }
def k0m0 : Method := { name := "<init>", desc := "()V", sig := { parameters := [], returnType := none }, accessFlags := 1, code := some k0c0 }
/-- java/lang/Object -/
def k0 : Class := { plain "java/lang/Object" none with
  accessFlags := 33
  interfaces := #[]
  cf := some (fileOf pool0 8 #[] #[{ accessFlags := 1, nameIndex := 5, descriptorIndex := 6, attributes := #[] }] 33 0 #[] #[])
  fields := #[]
  methods := #[k0m0]
  instanceTypes := #[]
  staticTypes := #[]
  resolved := Array.replicate 124 none
  statics := none }

def pool1 : Array CpInfo := pool [(2, .class_ 4), (1, u "java/lang/Object"), (0, u "<init>"), (0, u "()V"), (0, .fieldref 8 9), (0, .class_ 10), (0, .nameAndType 11 12), (0, u "com/example/deltatrace/deltatrace/LogEvent$Op"), (0, u "SESSION"), (0, u "Lcom/example/deltatrace/deltatrace/LogEvent$Op;"), (0, .fieldref 8 14), (0, .nameAndType 15 12), (0, u "CREATE"), (0, .fieldref 8 17), (0, .nameAndType 18 12), (0, u "DELETE"), (0, .fieldref 8 20), (0, .nameAndType 21 12), (0, u "SET"), (0, .fieldref 8 23), (0, .nameAndType 24 12), (0, u "UNSET"), (0, .fieldref 8 26), (0, .nameAndType 27 12), (0, u "ADD"), (0, .fieldref 8 29), (0, .nameAndType 30 12), (0, u "REMOVE"), (0, .fieldref 8 32), (0, .nameAndType 33 12), (0, u "MOVE"), (0, .integer 2147483647), (0, .methodref 36 37), (0, .class_ 38), (0, .nameAndType 39 40), (0, u "com/example/deltatrace/deltatrace/LogEventOnRootsPinLaw"), (0, u "pick"), (0, u "(I)Lcom/example/deltatrace/deltatrace/LogEvent$Op;"), (0, .class_ 42), (0, u "java/lang/String"), (0, .methodref 41 44), (0, .nameAndType 5 45), (0, u "([C)V"), (0, .string 47), (0, u ""), (0, .methodref 41 49), (0, .nameAndType 50 51), (0, u "valueOf"), (0, u "(C)Ljava/lang/String;"), (0, .methodref 53 54), (0, .class_ 55), (0, .nameAndType 50 56), (0, u "java/lang/Long"), (0, u "(J)Ljava/lang/Long;"), (0, .class_ 58), (0, u "com/example/deltatrace/deltatrace/LogEvent"), (0, .methodref 57 60), (0, .nameAndType 5 61), (0, u "(ILcom/example/deltatrace/deltatrace/LogEvent$Op;Ljava/lang/String;Ljava/lang/String;Ljava/lang/String;Ljava/lang/Object;Ljava/lang/Object;III)V"), (0, .methodref 57 63), (0, .nameAndType 64 65), (0, u "onRoots"), (0, u "()Z"), (3, u "law"), (0, u "(IIIIII)Z")] 6

def k1m0 : Method := { name := "<init>", desc := "()V", sig := { parameters := [], returnType := none }, accessFlags := 1, code := none }
def k1c1 : Code := { maxStack := 2, maxLocals := 1, code := method_2_code, exceptionTable := #[], attributes := #[] }
def k1m1 : Method := { name := "pick", desc := "(I)Lcom/example/deltatrace/deltatrace/LogEvent$Op;", sig := { parameters := [.int], returnType := some (.object "com/example/deltatrace/deltatrace/LogEvent$Op") }, accessFlags := 10, code := some k1c1 }
def k1c2 : Code := { maxStack := 12, maxLocals := 18, code := code, exceptionTable := #[], attributes := #[] }
def k1m2 : Method := { name := "law", desc := "(IIIIII)Z", sig := { parameters := [.int, .int, .int, .int, .int, .int], returnType := some .boolean }, accessFlags := 9, code := some k1c2 }
/-- com/example/deltatrace/deltatrace/LogEventOnRootsPinLaw -/
def k1 : Class := { plain "com/example/deltatrace/deltatrace/LogEventOnRootsPinLaw" (some 0) with
  accessFlags := 49
  interfaces := #[]
  cf := some (fileOf pool1 36 #[] #[{ accessFlags := 1, nameIndex := 5, descriptorIndex := 6, attributes := #[] }, { accessFlags := 10, nameIndex := 39, descriptorIndex := 40, attributes := #[] }, { accessFlags := 9, nameIndex := 69, descriptorIndex := 70, attributes := #[] }] 49 2 #[] #[])
  fields := #[]
  methods := #[k1m0, k1m1, k1m2]
  instanceTypes := #[]
  staticTypes := #[]
  resolved := Array.replicate 77 none
  statics := none }

def pool2 : Array CpInfo := pool [(1, .class_ 2), (0, u "java/lang/constant/Constable"), (0, .class_ 4), (0, u "java/lang/Object")] 6

/-- java/lang/constant/Constable -/
def k2 : Class := { plain "java/lang/constant/Constable" (some 0) with
  accessFlags := 1537
  interfaces := #[]
  cf := some (fileOf pool2 1 #[] #[] 1537 3 #[] #[])
  fields := #[]
  methods := #[]
  instanceTypes := #[]
  staticTypes := #[]
  resolved := Array.replicate 11 none
  statics := none }

def pool3 : Array CpInfo := pool [(1, .class_ 2), (0, u "java/lang/Comparable"), (0, .class_ 4), (0, u "java/lang/Object")] 7

/-- java/lang/Comparable -/
def k3 : Class := { plain "java/lang/Comparable" (some 0) with
  accessFlags := 1537
  interfaces := #[]
  cf := some (fileOf pool3 1 #[] #[] 1537 3 #[] #[])
  fields := #[]
  methods := #[]
  instanceTypes := #[]
  staticTypes := #[]
  resolved := Array.replicate 12 none
  statics := none }

def pool4 : Array CpInfo := pool [(1, .class_ 2), (0, u "java/io/Serializable"), (0, .class_ 4), (0, u "java/lang/Object")] 2

/-- java/io/Serializable -/
def k4 : Class := { plain "java/io/Serializable" (some 0) with
  accessFlags := 1537
  interfaces := #[]
  cf := some (fileOf pool4 1 #[] #[] 1537 3 #[] #[])
  fields := #[]
  methods := #[]
  instanceTypes := #[]
  staticTypes := #[]
  resolved := Array.replicate 7 none
  statics := none }

def pool5 : Array CpInfo := pool [(2, .class_ 4), (1, u "java/lang/Enum"), (0, u "name"), (0, u "Ljava/lang/String;"), (2, u "ordinal"), (0, u "I"), (1, .class_ 14), (1, u "java/lang/Object"), (4, u "hash"), (86, .class_ 108), (1, u "java/lang/Enum$EnumDesc"), (2, .class_ 112), (0, u "java/lang/constant/Constable"), (0, .class_ 114), (0, u "java/lang/Comparable"), (0, .class_ 116), (0, u "java/io/Serializable")] 87

/-- java/lang/Enum -/
def k5 : Class := { plain "java/lang/Enum" (some 0) with
  accessFlags := 1057
  interfaces := #[2, 3, 4]
  cf := some (fileOf pool5 2 #[.nestMembers #[106]] #[] 1057 12 #[111, 113, 115] #[{ accessFlags := 18, nameIndex := 5, descriptorIndex := 6, attributes := #[] }, { accessFlags := 18, nameIndex := 9, descriptorIndex := 10, attributes := #[] }, { accessFlags := 2, nameIndex := 19, descriptorIndex := 10, attributes := #[] }])
  fields := #[{ name := "name", type := (.object "java/lang/String"), accessFlags := 18, slot := 0, constantValue := 0 }, { name := "ordinal", type := .int, accessFlags := 18, slot := 1, constantValue := 0 }, { name := "hash", type := .int, accessFlags := 2, slot := 2, constantValue := 0 }]
  methods := #[]
  instanceTypes := #[(.object "java/lang/String"), .int, .int]
  staticTypes := #[]
  resolved := Array.replicate 204 none
  statics := none }

def pool6 : Array CpInfo := pool [(1, .class_ 2), (0, u "com/example/deltatrace/deltatrace/LogEvent$Op"), (2, u "SESSION"), (0, u "Lcom/example/deltatrace/deltatrace/LogEvent$Op;"), (2, u "CREATE"), (2, u "DELETE"), (2, u "SET"), (2, u "UNSET"), (2, u "ADD"), (2, u "REMOVE"), (2, u "MOVE"), (2, u "$VALUES"), (0, u "[Lcom/example/deltatrace/deltatrace/LogEvent$Op;"), (6, .class_ 40), (1, u "java/lang/Enum"), (8, u "text"), (0, u "Ljava/lang/String;"), (0, .fieldref 1 52), (0, .nameAndType 53 54), (0, u "onList"), (0, u "Z"), (40, u "keys"), (0, u "Ljava/util/List;"), (7, u "optional"), (0, u "Ljava/util/Set;"), (2, u "OPS"), (67, u "()Z"), (7, .class_ 185), (0, u "com/example/deltatrace/deltatrace/LogEvent")] 2

def k6c0 : Code := { maxStack := 1, maxLocals := 1, code := prog_13_method_6_code, exceptionTable := #[], attributes := #[] }
def k6m0 : Method := { name := "onList", desc := "()Z", sig := { parameters := [], returnType := some .boolean }, accessFlags := 0, code := some k6c0 }
/-- com/example/deltatrace/deltatrace/LogEvent$Op -/
def k6 : Class := { plain "com/example/deltatrace/deltatrace/LogEvent$Op" (some 5) with
  accessFlags := 16432
  interfaces := #[]
  cf := some (fileOf pool6 1 #[.nestHost 184] #[{ accessFlags := 0, nameIndex := 53, descriptorIndex := 176, attributes := #[] }] 16432 38 #[] #[{ accessFlags := 16409, nameIndex := 5, descriptorIndex := 6, attributes := #[] }, { accessFlags := 16409, nameIndex := 9, descriptorIndex := 6, attributes := #[] }, { accessFlags := 16409, nameIndex := 12, descriptorIndex := 6, attributes := #[] }, { accessFlags := 16409, nameIndex := 15, descriptorIndex := 6, attributes := #[] }, { accessFlags := 16409, nameIndex := 18, descriptorIndex := 6, attributes := #[] }, { accessFlags := 16409, nameIndex := 21, descriptorIndex := 6, attributes := #[] }, { accessFlags := 16409, nameIndex := 24, descriptorIndex := 6, attributes := #[] }, { accessFlags := 16409, nameIndex := 27, descriptorIndex := 6, attributes := #[] }, { accessFlags := 26, nameIndex := 108, descriptorIndex := 31, attributes := #[] }, { accessFlags := 18, nameIndex := 49, descriptorIndex := 50, attributes := #[] }, { accessFlags := 18, nameIndex := 53, descriptorIndex := 54, attributes := #[] }, { accessFlags := 18, nameIndex := 95, descriptorIndex := 96, attributes := #[] }, { accessFlags := 18, nameIndex := 104, descriptorIndex := 105, attributes := #[] }, { accessFlags := 4122, nameIndex := 30, descriptorIndex := 31, attributes := #[] }])
  fields := #[{ name := "SESSION", type := (.object "com/example/deltatrace/deltatrace/LogEvent$Op"), accessFlags := 16409, slot := 0, constantValue := 0 }, { name := "CREATE", type := (.object "com/example/deltatrace/deltatrace/LogEvent$Op"), accessFlags := 16409, slot := 1, constantValue := 0 }, { name := "DELETE", type := (.object "com/example/deltatrace/deltatrace/LogEvent$Op"), accessFlags := 16409, slot := 2, constantValue := 0 }, { name := "SET", type := (.object "com/example/deltatrace/deltatrace/LogEvent$Op"), accessFlags := 16409, slot := 3, constantValue := 0 }, { name := "UNSET", type := (.object "com/example/deltatrace/deltatrace/LogEvent$Op"), accessFlags := 16409, slot := 4, constantValue := 0 }, { name := "ADD", type := (.object "com/example/deltatrace/deltatrace/LogEvent$Op"), accessFlags := 16409, slot := 5, constantValue := 0 }, { name := "REMOVE", type := (.object "com/example/deltatrace/deltatrace/LogEvent$Op"), accessFlags := 16409, slot := 6, constantValue := 0 }, { name := "MOVE", type := (.object "com/example/deltatrace/deltatrace/LogEvent$Op"), accessFlags := 16409, slot := 7, constantValue := 0 }, { name := "OPS", type := (.array (.object "com/example/deltatrace/deltatrace/LogEvent$Op")), accessFlags := 26, slot := 8, constantValue := 0 }, { name := "text", type := (.object "java/lang/String"), accessFlags := 18, slot := 3, constantValue := 0 }, { name := "onList", type := .boolean, accessFlags := 18, slot := 4, constantValue := 0 }, { name := "keys", type := (.object "java/util/List"), accessFlags := 18, slot := 5, constantValue := 0 }, { name := "optional", type := (.object "java/util/Set"), accessFlags := 18, slot := 6, constantValue := 0 }, { name := "$VALUES", type := (.array (.object "com/example/deltatrace/deltatrace/LogEvent$Op")), accessFlags := 4122, slot := 9, constantValue := 0 }]
  methods := #[k6m0]
  instanceTypes := #[(.object "java/lang/String"), .int, .int, (.object "java/lang/String"), .boolean, (.object "java/util/List"), (.object "java/util/Set")]
  staticTypes := #[(.object "com/example/deltatrace/deltatrace/LogEvent$Op"), (.object "com/example/deltatrace/deltatrace/LogEvent$Op"), (.object "com/example/deltatrace/deltatrace/LogEvent$Op"), (.object "com/example/deltatrace/deltatrace/LogEvent$Op"), (.object "com/example/deltatrace/deltatrace/LogEvent$Op"), (.object "com/example/deltatrace/deltatrace/LogEvent$Op"), (.object "com/example/deltatrace/deltatrace/LogEvent$Op"), (.object "com/example/deltatrace/deltatrace/LogEvent$Op"), (.array (.object "com/example/deltatrace/deltatrace/LogEvent$Op")), (.array (.object "com/example/deltatrace/deltatrace/LogEvent$Op"))]
  resolved := Array.replicate 188 none
  statics := some 0 }

def pool7 : Array CpInfo := pool [(2, .class_ 4), (1, u "java/lang/CharSequence"), (42, .class_ 48), (0, u "java/lang/CharSequence$1CodePointIterator"), (10, .class_ 60), (0, u "java/lang/CharSequence$1CharIterator"), (5, .class_ 67), (0, u "java/lang/Object")] 63

/-- java/lang/CharSequence -/
def k7 : Class := { plain "java/lang/CharSequence" (some 0) with
  accessFlags := 1537
  interfaces := #[]
  cf := some (fileOf pool7 2 #[.nestMembers #[47, 59]] #[] 1537 66 #[] #[])
  fields := #[]
  methods := #[]
  instanceTypes := #[]
  staticTypes := #[]
  resolved := Array.replicate 131 none
  statics := none }

def pool8 : Array CpInfo := pool [(1, .class_ 2), (0, u "java/lang/constant/ConstantDesc"), (0, .class_ 4), (0, u "java/lang/Object")] 32

/-- java/lang/constant/ConstantDesc -/
def k8 : Class := { plain "java/lang/constant/ConstantDesc" (some 0) with
  accessFlags := 1537
  interfaces := #[]
  cf := some (fileOf pool8 1 #[] #[] 1537 3 #[] #[])
  fields := #[]
  methods := #[]
  instanceTypes := #[]
  staticTypes := #[]
  resolved := Array.replicate 37 none
  statics := none }

def pool9 : Array CpInfo := pool [(1, .methodref 2 3), (0, .class_ 4), (0, .nameAndType 5 6), (0, u "java/lang/Object"), (0, u "<init>"), (0, u "()V"), (2, .fieldref 10 11), (0, .class_ 12), (0, .nameAndType 13 14), (0, u "java/lang/String"), (0, u "value"), (0, u "[B"), (0, .fieldref 10 16), (0, .nameAndType 17 18), (0, u "coder"), (0, u "B"), (2, u "hash"), (0, u "I"), (2, u "hashIsZero"), (0, u "Z"), (0, .methodref 10 28), (0, .nameAndType 5 29), (0, u "([CIILjava/lang/Void;)V"), (8, .fieldref 10 39), (0, .nameAndType 40 26), (0, u "COMPACT_STRINGS"), (1, .class_ 44), (1, u "java/lang/StringUTF16"), (0, u "compress"), (1, .methodref 42 48), (0, .nameAndType 49 50), (0, u "coderFromArrayLen"), (0, u "([BI)B"), (2, u "toBytes"), (53, .class_ 109), (1, u "java/lang/StringLatin1"), (67, .methodref 42 178), (0, .nameAndType 45 179), (0, u "([CII)[B"), (29, .methodref 10 210), (0, .nameAndType 5 211), (0, u "([BB)V"), (157, u "(C)Z"), (205, .class_ 576), (0, u "java/lang/CharSequence"), (22, u "CASE_INSENSITIVE_ORDER"), (0, u "Ljava/util/Comparator;"), (181, u "valueOf"), (0, u "(C)Ljava/lang/String;"), (226, u "([C)V"), (4, .methodref 107 1016), (0, .nameAndType 1017 369), (0, u "canEncode"), (0, .methodref 107 1019), (0, .nameAndType 53 1020), (0, u "(C)[B"), (80, u "serialPersistentFields"), (0, u "[Ljava/io/ObjectStreamField;"), (0, .class_ 1104), (0, u "java/lang/String$CaseInsensitiveComparator"), (1, .class_ 1107), (0, u "java/io/Serializable"), (0, .class_ 1109), (0, u "java/lang/Comparable"), (0, .class_ 1111), (0, u "java/lang/constant/Constable"), (0, .class_ 1113), (0, u "java/lang/constant/ConstantDesc"), (2, u "serialVersionUID"), (0, u "J"), (3, u "REPL"), (0, u "C"), (2, u "LATIN1"), (1, u "UTF16")] 323

def k9m0 : Method := { name := "<init>", desc := "()V", sig := { parameters := [], returnType := none }, accessFlags := 1, code := none }
def k9c1 : Code := { maxStack := 5, maxLocals := 2, code := jdk_42_method_3_code, exceptionTable := #[], attributes := #[] }
def k9m1 : Method := { name := "<init>", desc := "([C)V", sig := { parameters := [(.array .char)], returnType := none }, accessFlags := 1, code := some k9c1 }
def k9c2 : Code := { maxStack := 4, maxLocals := 1, code := jdk_42_method_139_code, exceptionTable := #[], attributes := #[] }
def k9m2 : Method := { name := "valueOf", desc := "(C)Ljava/lang/String;", sig := { parameters := [.char], returnType := some (.object "java/lang/String") }, accessFlags := 9, code := some k9c2 }
def k9c3 : Code := { maxStack := 4, maxLocals := 6, code := jdk_42_method_149_code, exceptionTable := #[], attributes := #[] }
def k9m3 : Method := { name := "<init>", desc := "([CIILjava/lang/Void;)V", sig := { parameters := [(.array .char), .int, .int, (.object "java/lang/Void")], returnType := none }, accessFlags := 2, code := some k9c3 }
def k9c4 : Code := { maxStack := 2, maxLocals := 3, code := jdk_42_method_151_code, exceptionTable := #[], attributes := #[] }
def k9m4 : Method := { name := "<init>", desc := "([BB)V", sig := { parameters := [(.array .byte), .byte], returnType := none }, accessFlags := 0, code := some k9c4 }
/-- java/lang/String -/
def k9 : Class := { plain "java/lang/String" (some 0) with
  accessFlags := 49
  interfaces := #[4, 3, 7, 2, 8]
  cf := some (fileOf pool9 10 #[.nestMembers #[1103]] #[{ accessFlags := 1, nameIndex := 5, descriptorIndex := 6, attributes := #[] }, { accessFlags := 1, nameIndex := 5, descriptorIndex := 1010, attributes := #[] }, { accessFlags := 9, nameIndex := 782, descriptorIndex := 783, attributes := #[] }, { accessFlags := 2, nameIndex := 5, descriptorIndex := 29, attributes := #[] }, { accessFlags := 0, nameIndex := 5, descriptorIndex := 211, attributes := #[] }] 49 2 #[1106, 1108, 575, 1110, 1112] #[{ accessFlags := 18, nameIndex := 13, descriptorIndex := 14, attributes := #[] }, { accessFlags := 18, nameIndex := 17, descriptorIndex := 18, attributes := #[] }, { accessFlags := 2, nameIndex := 21, descriptorIndex := 22, attributes := #[] }, { accessFlags := 2, nameIndex := 25, descriptorIndex := 26, attributes := #[] }, { accessFlags := 26, nameIndex := 1116, descriptorIndex := 1117, attributes := #[] }, { accessFlags := 24, nameIndex := 40, descriptorIndex := 26, attributes := #[] }, { accessFlags := 26, nameIndex := 1101, descriptorIndex := 1102, attributes := #[] }, { accessFlags := 26, nameIndex := 1121, descriptorIndex := 1122, attributes := #[] }, { accessFlags := 25, nameIndex := 599, descriptorIndex := 600, attributes := #[] }, { accessFlags := 24, nameIndex := 1125, descriptorIndex := 18, attributes := #[] }, { accessFlags := 24, nameIndex := 1127, descriptorIndex := 18, attributes := #[] }])
  fields := #[{ name := "value", type := (.array .byte), accessFlags := 18, slot := 0, constantValue := 0 }, { name := "coder", type := .byte, accessFlags := 18, slot := 1, constantValue := 0 }, { name := "hash", type := .int, accessFlags := 2, slot := 2, constantValue := 0 }, { name := "hashIsZero", type := .boolean, accessFlags := 2, slot := 3, constantValue := 0 }, { name := "serialVersionUID", type := .long, accessFlags := 26, slot := 0, constantValue := 0 }, { name := "COMPACT_STRINGS", type := .boolean, accessFlags := 24, slot := 1, constantValue := 0 }, { name := "serialPersistentFields", type := (.array (.object "java/io/ObjectStreamField")), accessFlags := 26, slot := 2, constantValue := 0 }, { name := "REPL", type := .char, accessFlags := 26, slot := 3, constantValue := 0 }, { name := "CASE_INSENSITIVE_ORDER", type := (.object "java/util/Comparator"), accessFlags := 25, slot := 4, constantValue := 0 }, { name := "LATIN1", type := .byte, accessFlags := 24, slot := 5, constantValue := 0 }, { name := "UTF16", type := .byte, accessFlags := 24, slot := 6, constantValue := 0 }]
  methods := #[k9m0, k9m1, k9m2, k9m3, k9m4]
  instanceTypes := #[(.array .byte), .byte, .int, .boolean]
  staticTypes := #[.long, .boolean, (.array (.object "java/io/ObjectStreamField")), .char, (.object "java/util/Comparator"), .byte, .byte]
  resolved := Array.replicate 1451 none
  statics := some 1 }

def pool10 : Array CpInfo := pool [(6, .class_ 8), (1, u "java/lang/Object"), (0, u "<init>"), (0, u "()V"), (1, .class_ 14), (1, u "java/lang/StringUTF16"), (31, u "$assertionsDisabled"), (0, u "Z"), (13, u "HI_BYTE_SHIFT"), (0, u "I"), (2, u "LO_BYTE_SHIFT"), (49, .methodref 12 116), (0, .nameAndType 117 118), (0, u "compress"), (0, u "([CI[BII)I"), (3, u "([CII)[B"), (138, u "coderFromArrayLen"), (0, u "([BI)B"), (106, .class_ 371), (1, u "java/lang/StringUTF16$LinesSpliterator"), (58, u "MAX_LENGTH"), (196, .class_ 628), (0, u "java/lang/StringUTF16$CodePointsSpliterator"), (0, .class_ 630), (0, u "java/lang/StringUTF16$CharsSpliterator")] 4

def k10m0 : Method := { name := "<init>", desc := "()V", sig := { parameters := [], returnType := none }, accessFlags := 0, code := none }
def k10c1 : Code := { maxStack := 2, maxLocals := 2, code := jdk_52_method_15_code, exceptionTable := #[], attributes := #[] }
def k10m1 : Method := { name := "coderFromArrayLen", desc := "([BI)B", sig := { parameters := [(.array .byte), .int], returnType := some .byte }, accessFlags := 8, code := some k10c1 }
def k10c2 : Code := { maxStack := 5, maxLocals := 6, code := jdk_52_method_16_code, exceptionTable := #[], attributes := #[] }
def k10m2 : Method := { name := "compress", desc := "([CII)[B", sig := { parameters := [(.array .char), .int, .int], returnType := some (.array .byte) }, accessFlags := 9, code := some k10c2 }
def k10c3 : Code := { maxStack := 3, maxLocals := 7, code := jdk_52_method_21_code, exceptionTable := #[], attributes := #[] }
def k10m3 : Method := { name := "compress", desc := "([CI[BII)I", sig := { parameters := [(.array .char), .int, (.array .byte), .int, .int], returnType := some .int }, accessFlags := 9, code := some k10c3 }
/-- java/lang/StringUTF16 -/
def k10 : Class := { plain "java/lang/StringUTF16" (some 0) with
  accessFlags := 48
  interfaces := #[]
  cf := some (fileOf pool10 12 #[.nestMembers #[627, 629, 369]] #[{ accessFlags := 0, nameIndex := 9, descriptorIndex := 10, attributes := #[] }, { accessFlags := 8, nameIndex := 261, descriptorIndex := 262, attributes := #[] }, { accessFlags := 9, nameIndex := 117, descriptorIndex := 122, attributes := #[] }, { accessFlags := 9, nameIndex := 117, descriptorIndex := 118, attributes := #[] }] 48 6 #[] #[{ accessFlags := 26, nameIndex := 61, descriptorIndex := 62, attributes := #[] }, { accessFlags := 26, nameIndex := 65, descriptorIndex := 62, attributes := #[] }, { accessFlags := 24, nameIndex := 430, descriptorIndex := 62, attributes := #[] }, { accessFlags := 4120, nameIndex := 46, descriptorIndex := 47, attributes := #[] }])
  fields := #[{ name := "HI_BYTE_SHIFT", type := .int, accessFlags := 26, slot := 0, constantValue := 0 }, { name := "LO_BYTE_SHIFT", type := .int, accessFlags := 26, slot := 1, constantValue := 0 }, { name := "MAX_LENGTH", type := .int, accessFlags := 24, slot := 2, constantValue := 0 }, { name := "$assertionsDisabled", type := .boolean, accessFlags := 4120, slot := 3, constantValue := 0 }]
  methods := #[k10m0, k10m1, k10m2, k10m3]
  instanceTypes := #[]
  staticTypes := #[.int, .int, .int, .boolean]
  resolved := Array.replicate 635 none
  statics := none }

def pool11 : Array CpInfo := pool [(1, .methodref 2 3), (0, .class_ 4), (0, .nameAndType 5 6), (0, u "java/lang/Object"), (0, u "<init>"), (0, u "()V"), (0, .class_ 8), (0, u "java/lang/Record")] 13

def k11c0 : Code := { maxStack := 1, maxLocals := 1, code := jdk_30_method_1_code, exceptionTable := #[], attributes := #[] }
def k11m0 : Method := { name := "<init>", desc := "()V", sig := { parameters := [], returnType := none }, accessFlags := 4, code := some k11c0 }
/-- java/lang/Record -/
def k11 : Class := { plain "java/lang/Record" (some 0) with
  accessFlags := 1057
  interfaces := #[]
  cf := some (fileOf pool11 7 #[] #[{ accessFlags := 4, nameIndex := 5, descriptorIndex := 6, attributes := #[] }] 1057 2 #[] #[])
  fields := #[]
  methods := #[k11m0]
  instanceTypes := #[]
  staticTypes := #[]
  resolved := Array.replicate 22 none
  statics := none }

def pool12 : Array CpInfo := pool [(1, .methodref 2 3), (0, .class_ 4), (0, .nameAndType 5 6), (0, u "java/lang/Record"), (0, u "<init>"), (0, u "()V"), (0, .fieldref 8 9), (0, .class_ 10), (0, .nameAndType 11 12), (0, u "com/example/deltatrace/deltatrace/LogEvent"), (0, u "line"), (0, u "I"), (0, .fieldref 8 14), (0, .nameAndType 15 16), (0, u "op"), (0, u "Lcom/example/deltatrace/deltatrace/LogEvent$Op;"), (0, .fieldref 8 18), (0, .nameAndType 19 20), (0, u "id"), (0, u "Ljava/lang/String;"), (0, .fieldref 8 22), (0, .nameAndType 23 20), (0, u "className"), (0, .fieldref 8 25), (0, .nameAndType 26 20), (0, u "feature"), (0, .fieldref 8 28), (0, .nameAndType 29 30), (0, u "value"), (0, u "Ljava/lang/Object;"), (0, .fieldref 8 32), (0, .nameAndType 33 30), (0, u "old"), (0, .fieldref 8 35), (0, .nameAndType 36 12), (0, u "at"), (0, .fieldref 8 38), (0, .nameAndType 39 12), (0, u "from"), (0, .fieldref 8 41), (0, .nameAndType 42 12), (0, u "to"), (1, .class_ 46), (1, u "com/example/deltatrace/deltatrace/LogEvent$Op"), (3, u "(ILcom/example/deltatrace/deltatrace/LogEvent$Op;Ljava/lang/String;Ljava/lang/String;Ljava/lang/String;Ljava/lang/Object;Ljava/lang/Object;III)V"), (26, u "()Z"), (6, .methodref 44 85), (0, .nameAndType 86 77), (0, u "onList"), (66, u "onRoots")] 44

def k12c0 : Code := { maxStack := 2, maxLocals := 11, code := prog_12_method_1_code, exceptionTable := #[], attributes := #[] }
def k12m0 : Method := { name := "<init>", desc := "(ILcom/example/deltatrace/deltatrace/LogEvent$Op;Ljava/lang/String;Ljava/lang/String;Ljava/lang/String;Ljava/lang/Object;Ljava/lang/Object;III)V", sig := { parameters := [.int, (.object "com/example/deltatrace/deltatrace/LogEvent$Op"), (.object "java/lang/String"), (.object "java/lang/String"), (.object "java/lang/String"), (.object "java/lang/Object"), (.object "java/lang/Object"), .int, .int, .int], returnType := none }, accessFlags := 0, code := some k12c0 }
def k12c1 : Code := { maxStack := 1, maxLocals := 1, code := prog_12_method_13_code, exceptionTable := #[], attributes := #[] }
def k12m1 : Method := { name := "onRoots", desc := "()Z", sig := { parameters := [], returnType := some .boolean }, accessFlags := 0, code := some k12c1 }
/-- com/example/deltatrace/deltatrace/LogEvent -/
def k12 : Class := { plain "com/example/deltatrace/deltatrace/LogEvent" (some 11) with
  accessFlags := 48
  interfaces := #[]
  cf := some (fileOf pool12 8 #[.nestMembers #[44]] #[{ accessFlags := 0, nameIndex := 5, descriptorIndex := 50, attributes := #[] }, { accessFlags := 0, nameIndex := 153, descriptorIndex := 77, attributes := #[] }] 48 2 #[] #[{ accessFlags := 18, nameIndex := 11, descriptorIndex := 12, attributes := #[] }, { accessFlags := 18, nameIndex := 15, descriptorIndex := 16, attributes := #[] }, { accessFlags := 18, nameIndex := 19, descriptorIndex := 20, attributes := #[] }, { accessFlags := 18, nameIndex := 23, descriptorIndex := 20, attributes := #[] }, { accessFlags := 18, nameIndex := 26, descriptorIndex := 20, attributes := #[] }, { accessFlags := 18, nameIndex := 29, descriptorIndex := 30, attributes := #[] }, { accessFlags := 18, nameIndex := 33, descriptorIndex := 30, attributes := #[] }, { accessFlags := 18, nameIndex := 36, descriptorIndex := 12, attributes := #[] }, { accessFlags := 18, nameIndex := 39, descriptorIndex := 12, attributes := #[] }, { accessFlags := 18, nameIndex := 42, descriptorIndex := 12, attributes := #[] }])
  fields := #[{ name := "line", type := .int, accessFlags := 18, slot := 0, constantValue := 0 }, { name := "op", type := (.object "com/example/deltatrace/deltatrace/LogEvent$Op"), accessFlags := 18, slot := 1, constantValue := 0 }, { name := "id", type := (.object "java/lang/String"), accessFlags := 18, slot := 2, constantValue := 0 }, { name := "className", type := (.object "java/lang/String"), accessFlags := 18, slot := 3, constantValue := 0 }, { name := "feature", type := (.object "java/lang/String"), accessFlags := 18, slot := 4, constantValue := 0 }, { name := "value", type := (.object "java/lang/Object"), accessFlags := 18, slot := 5, constantValue := 0 }, { name := "old", type := (.object "java/lang/Object"), accessFlags := 18, slot := 6, constantValue := 0 }, { name := "at", type := .int, accessFlags := 18, slot := 7, constantValue := 0 }, { name := "from", type := .int, accessFlags := 18, slot := 8, constantValue := 0 }, { name := "to", type := .int, accessFlags := 18, slot := 9, constantValue := 0 }]
  methods := #[k12m0, k12m1]
  instanceTypes := #[.int, (.object "com/example/deltatrace/deltatrace/LogEvent$Op"), (.object "java/lang/String"), (.object "java/lang/String"), (.object "java/lang/String"), (.object "java/lang/Object"), (.object "java/lang/Object"), .int, .int, .int]
  staticTypes := #[]
  resolved := Array.replicate 198 none
  statics := none }

def pool13 : Array CpInfo := pool [(4, .class_ 6), (1, u "java/lang/Object"), (0, u "<init>"), (0, u "()V"), (5, .class_ 16), (1, u "java/lang/StringLatin1"), (73, u "canEncode"), (14, u "(C)Z"), (15, u "$assertionsDisabled"), (0, u "Z"), (98, .class_ 223), (1, u "java/lang/StringLatin1$LinesSpliterator"), (156, u "toBytes"), (1, u "(C)[B"), (7, .class_ 391), (0, u "java/lang/StringLatin1$CharsSpliterator")] 3

def k13m0 : Method := { name := "<init>", desc := "()V", sig := { parameters := [], returnType := none }, accessFlags := 0, code := none }
def k13c1 : Code := { maxStack := 2, maxLocals := 1, code := jdk_43_method_3_code, exceptionTable := #[], attributes := #[] }
def k13m1 : Method := { name := "canEncode", desc := "(C)Z", sig := { parameters := [.char], returnType := some .boolean }, accessFlags := 9, code := some k13c1 }
def k13c2 : Code := { maxStack := 4, maxLocals := 1, code := jdk_43_method_46_code, exceptionTable := #[], attributes := #[] }
def k13m2 : Method := { name := "toBytes", desc := "(C)[B", sig := { parameters := [.char], returnType := some (.array .byte) }, accessFlags := 9, code := some k13c2 }
/-- java/lang/StringLatin1 -/
def k13 : Class := { plain "java/lang/StringLatin1" (some 0) with
  accessFlags := 48
  interfaces := #[]
  cf := some (fileOf pool13 14 #[.nestMembers #[390, 221]] #[{ accessFlags := 0, nameIndex := 7, descriptorIndex := 8, attributes := #[] }, { accessFlags := 9, nameIndex := 90, descriptorIndex := 105, attributes := #[] }, { accessFlags := 9, nameIndex := 380, descriptorIndex := 382, attributes := #[] }] 48 4 #[] #[{ accessFlags := 4120, nameIndex := 121, descriptorIndex := 122, attributes := #[] }])
  fields := #[{ name := "$assertionsDisabled", type := .boolean, accessFlags := 4120, slot := 0, constantValue := 0 }]
  methods := #[k13m0, k13m1, k13m2]
  instanceTypes := #[]
  staticTypes := #[.boolean]
  resolved := Array.replicate 395 none
  statics := none }

def pool14 : Array CpInfo := pool [(1, .methodref 2 3), (0, .class_ 4), (0, .nameAndType 5 6), (0, u "java/lang/Object"), (0, u "<init>"), (0, u "()V"), (1, .class_ 10), (1, u "java/lang/Number"), (2, .class_ 14), (0, u "java/io/Serializable"), (0, u "serialVersionUID"), (0, u "J")] 20

def k14c0 : Code := { maxStack := 1, maxLocals := 1, code := jdk_18_method_1_code, exceptionTable := #[], attributes := #[] }
def k14m0 : Method := { name := "<init>", desc := "()V", sig := { parameters := [], returnType := none }, accessFlags := 1, code := some k14c0 }
/-- java/lang/Number -/
def k14 : Class := { plain "java/lang/Number" (some 0) with
  accessFlags := 1057
  interfaces := #[4]
  cf := some (fileOf pool14 8 #[] #[{ accessFlags := 1, nameIndex := 5, descriptorIndex := 6, attributes := #[] }] 1057 2 #[13] #[{ accessFlags := 26, nameIndex := 15, descriptorIndex := 16, attributes := #[] }])
  fields := #[{ name := "serialVersionUID", type := .long, accessFlags := 26, slot := 0, constantValue := 0 }]
  methods := #[k14m0]
  instanceTypes := #[]
  staticTypes := #[.long]
  resolved := Array.replicate 37 none
  statics := none }

def pool15 : Array CpInfo := pool [(1, .class_ 2), (0, u "java/lang/Long"), (55, .nameAndType 59 60), (0, u "<init>"), (0, u "()V"), (24, u "valueOf"), (143, u "(J)Ljava/lang/Long;"), (0, .long 18446744073709551488), (1, .long 127), (1, .fieldref 235 236), (0, .class_ 237), (0, .nameAndType 238 239), (0, u "java/lang/Long$LongCache"), (0, u "cache"), (0, u "[Ljava/lang/Long;"), (0, .methodref 1 241), (0, .nameAndType 59 242), (0, u "(J)V"), (27, .methodref 271 58), (0, .class_ 272), (0, u "java/lang/Number"), (0, .fieldref 1 274), (0, .nameAndType 275 276), (0, u "value"), (0, u "J"), (84, u "TYPE"), (0, u "Ljava/lang/Class;"), (0, .class_ 364), (0, u "java/lang/Comparable"), (0, .class_ 366), (0, u "java/lang/constant/Constable"), (0, .class_ 368), (0, u "java/lang/constant/ConstantDesc"), (0, u "MIN_VALUE"), (1, u "MAX_VALUE"), (4, u "SIZE"), (0, u "I"), (1, u "BYTES"), (1, u "serialVersionUID")] 142

def k15c0 : Code := { maxStack := 4, maxLocals := 3, code := jdk_35_method_24_code, exceptionTable := #[], attributes := #[] }
def k15m0 : Method := { name := "valueOf", desc := "(J)Ljava/lang/Long;", sig := { parameters := [.long], returnType := some (.object "java/lang/Long") }, accessFlags := 9, code := some k15c0 }
def k15c1 : Code := { maxStack := 3, maxLocals := 3, code := jdk_35_method_26_code, exceptionTable := #[], attributes := #[] }
def k15m1 : Method := { name := "<init>", desc := "(J)V", sig := { parameters := [.long], returnType := none }, accessFlags := 1, code := some k15c1 }
/-- java/lang/Long -/
def k15 : Class := { plain "java/lang/Long" (some 14) with
  accessFlags := 49
  interfaces := #[3, 2, 8]
  cf := some (fileOf pool15 1 #[.nestMembers #[235]] #[{ accessFlags := 9, nameIndex := 85, descriptorIndex := 229, attributes := #[] }, { accessFlags := 1, nameIndex := 59, descriptorIndex := 242, attributes := #[] }] 49 271 #[363, 365, 367] #[{ accessFlags := 25, nameIndex := 369, descriptorIndex := 276, attributes := #[] }, { accessFlags := 25, nameIndex := 371, descriptorIndex := 276, attributes := #[] }, { accessFlags := 25, nameIndex := 361, descriptorIndex := 362, attributes := #[] }, { accessFlags := 18, nameIndex := 275, descriptorIndex := 276, attributes := #[] }, { accessFlags := 25, nameIndex := 376, descriptorIndex := 377, attributes := #[] }, { accessFlags := 25, nameIndex := 379, descriptorIndex := 377, attributes := #[] }, { accessFlags := 26, nameIndex := 381, descriptorIndex := 276, attributes := #[] }])
  fields := #[{ name := "MIN_VALUE", type := .long, accessFlags := 25, slot := 0, constantValue := 0 }, { name := "MAX_VALUE", type := .long, accessFlags := 25, slot := 1, constantValue := 0 }, { name := "TYPE", type := (.object "java/lang/Class"), accessFlags := 25, slot := 2, constantValue := 0 }, { name := "value", type := .long, accessFlags := 18, slot := 0, constantValue := 0 }, { name := "SIZE", type := .int, accessFlags := 25, slot := 3, constantValue := 0 }, { name := "BYTES", type := .int, accessFlags := 25, slot := 4, constantValue := 0 }, { name := "serialVersionUID", type := .long, accessFlags := 26, slot := 5, constantValue := 0 }]
  methods := #[k15m0, k15m1]
  instanceTypes := #[.long]
  staticTypes := #[.long, .long, (.object "java/lang/Class"), .int, .int, .long]
  resolved := Array.replicate 524 none
  statics := none }

def pool16 : Array CpInfo := pool [(2, .class_ 4), (1, u "java/lang/Object"), (0, u "<init>"), (0, u "()V"), (0, .class_ 8), (0, u "java/lang/Long"), (7, .class_ 18), (1, u "java/lang/Long$LongCache"), (0, u "$assertionsDisabled"), (0, u "Z"), (8, u "archivedCache"), (0, u "[Ljava/lang/Long;"), (7, u "cache")] 24

def k16m0 : Method := { name := "<init>", desc := "()V", sig := { parameters := [], returnType := none }, accessFlags := 2, code := none }
/-- java/lang/Long$LongCache -/
def k16 : Class := { plain "java/lang/Long$LongCache" (some 0) with
  accessFlags := 48
  interfaces := #[]
  cf := some (fileOf pool16 16 #[.nestHost 7] #[{ accessFlags := 2, nameIndex := 5, descriptorIndex := 6, attributes := #[] }] 48 2 #[] #[{ accessFlags := 24, nameIndex := 38, descriptorIndex := 30, attributes := #[] }, { accessFlags := 8, nameIndex := 29, descriptorIndex := 30, attributes := #[] }, { accessFlags := 4120, nameIndex := 19, descriptorIndex := 20, attributes := #[] }])
  fields := #[{ name := "cache", type := (.array (.object "java/lang/Long")), accessFlags := 24, slot := 0, constantValue := 0 }, { name := "archivedCache", type := (.array (.object "java/lang/Long")), accessFlags := 8, slot := 1, constantValue := 0 }, { name := "$assertionsDisabled", type := .boolean, accessFlags := 4120, slot := 2, constantValue := 0 }]
  methods := #[k16m0]
  instanceTypes := #[]
  staticTypes := #[(.array (.object "java/lang/Long")), (.array (.object "java/lang/Long")), .boolean]
  resolved := Array.replicate 63 none
  statics := some 2 }

def pool17 : Array CpInfo := pool [(2, .class_ 4), (1, u "java/lang/Object"), (0, u "<init>"), (0, u "()V"), (17, .class_ 26), (1, u "jdk/internal/util/Preconditions"), (28, .class_ 56), (0, u "jdk/internal/util/Preconditions$4"), (57, .class_ 115), (0, u "jdk/internal/util/Preconditions$1"), (7, u "SIOOBE_FORMATTER"), (0, u "Ljava/util/function/BiFunction;"), (0, .class_ 126), (0, u "jdk/internal/util/Preconditions$2"), (3, u "AIOOBE_FORMATTER"), (0, .class_ 132), (0, u "jdk/internal/util/Preconditions$3"), (3, u "IOOBE_FORMATTER")] 57

def k17m0 : Method := { name := "<init>", desc := "()V", sig := { parameters := [], returnType := none }, accessFlags := 1, code := none }
/-- jdk/internal/util/Preconditions -/
def k17 : Class := { plain "jdk/internal/util/Preconditions" (some 0) with
  accessFlags := 33
  interfaces := #[]
  cf := some (fileOf pool17 24 #[.nestMembers #[55, 131, 125, 114]] #[{ accessFlags := 1, nameIndex := 5, descriptorIndex := 6, attributes := #[] }] 33 2 #[] #[{ accessFlags := 25, nameIndex := 123, descriptorIndex := 124, attributes := #[] }, { accessFlags := 25, nameIndex := 130, descriptorIndex := 124, attributes := #[] }, { accessFlags := 25, nameIndex := 136, descriptorIndex := 124, attributes := #[] }])
  fields := #[{ name := "SIOOBE_FORMATTER", type := (.object "java/util/function/BiFunction"), accessFlags := 25, slot := 0, constantValue := 0 }, { name := "AIOOBE_FORMATTER", type := (.object "java/util/function/BiFunction"), accessFlags := 25, slot := 1, constantValue := 0 }, { name := "IOOBE_FORMATTER", type := (.object "java/util/function/BiFunction"), accessFlags := 25, slot := 2, constantValue := 0 }]
  methods := #[k17m0]
  instanceTypes := #[]
  staticTypes := #[(.object "java/util/function/BiFunction"), (.object "java/util/function/BiFunction"), (.object "java/util/function/BiFunction")]
  resolved := Array.replicate 194 none
  statics := some 3 }

def pool18 : Array CpInfo := pool [(9, u "<init>"), (6, .class_ 18), (1, u "java/lang/Object"), (0, u "()V"), (1, .class_ 23), (1, u "jdk/internal/util/ArraysSupport"), (0, u "LOG2_ARRAY_LONG_INDEX_SCALE"), (0, u "I"), (2, u "U"), (0, u "Ljdk/internal/misc/Unsafe;"), (8, u "BIG_ENDIAN"), (0, u "Z"), (8, u "LOG2_BYTE_BIT_SIZE"), (4, u "LOG2_ARRAY_INT_INDEX_SCALE"), (54, u "JLA"), (0, u "Ljdk/internal/access/JavaLangAccess;"), (11, u "LOG2_ARRAY_BOOLEAN_INDEX_SCALE"), (9, u "LOG2_ARRAY_BYTE_INDEX_SCALE"), (5, u "LOG2_ARRAY_CHAR_INDEX_SCALE"), (5, u "LOG2_ARRAY_SHORT_INDEX_SCALE"), (18, u "LOG2_ARRAY_FLOAT_INDEX_SCALE"), (24, u "LOG2_ARRAY_DOUBLE_INDEX_SCALE"), (89, u "T_BOOLEAN"), (2, u "T_CHAR"), (1, u "T_FLOAT"), (1, u "T_DOUBLE"), (1, u "T_BYTE"), (1, u "T_SHORT"), (1, u "T_INT"), (1, u "T_LONG"), (1, u "SOFT_MAX_ARRAY_LENGTH")] 83

def k18m0 : Method := { name := "<init>", desc := "()V", sig := { parameters := [], returnType := none }, accessFlags := 2, code := none }
/-- jdk/internal/util/ArraysSupport -/
def k18 : Class := { plain "jdk/internal/util/ArraysSupport" (some 0) with
  accessFlags := 33
  interfaces := #[]
  cf := some (fileOf pool18 21 #[] #[{ accessFlags := 2, nameIndex := 9, descriptorIndex := 19, attributes := #[] }] 33 16 #[] #[{ accessFlags := 24, nameIndex := 28, descriptorIndex := 29, attributes := #[] }, { accessFlags := 26, nameIndex := 38, descriptorIndex := 39, attributes := #[] }, { accessFlags := 25, nameIndex := 121, descriptorIndex := 25, attributes := #[] }, { accessFlags := 25, nameIndex := 131, descriptorIndex := 25, attributes := #[] }, { accessFlags := 25, nameIndex := 137, descriptorIndex := 25, attributes := #[] }, { accessFlags := 25, nameIndex := 143, descriptorIndex := 25, attributes := #[] }, { accessFlags := 25, nameIndex := 53, descriptorIndex := 25, attributes := #[] }, { accessFlags := 25, nameIndex := 24, descriptorIndex := 25, attributes := #[] }, { accessFlags := 25, nameIndex := 162, descriptorIndex := 25, attributes := #[] }, { accessFlags := 25, nameIndex := 187, descriptorIndex := 25, attributes := #[] }, { accessFlags := 26, nameIndex := 48, descriptorIndex := 25, attributes := #[] }, { accessFlags := 25, nameIndex := 277, descriptorIndex := 25, attributes := #[] }, { accessFlags := 25, nameIndex := 280, descriptorIndex := 25, attributes := #[] }, { accessFlags := 25, nameIndex := 282, descriptorIndex := 25, attributes := #[] }, { accessFlags := 25, nameIndex := 284, descriptorIndex := 25, attributes := #[] }, { accessFlags := 25, nameIndex := 286, descriptorIndex := 25, attributes := #[] }, { accessFlags := 25, nameIndex := 288, descriptorIndex := 25, attributes := #[] }, { accessFlags := 25, nameIndex := 290, descriptorIndex := 25, attributes := #[] }, { accessFlags := 25, nameIndex := 292, descriptorIndex := 25, attributes := #[] }, { accessFlags := 26, nameIndex := 108, descriptorIndex := 109, attributes := #[] }, { accessFlags := 25, nameIndex := 294, descriptorIndex := 25, attributes := #[] }])
  fields := #[{ name := "U", type := (.object "jdk/internal/misc/Unsafe"), accessFlags := 24, slot := 0, constantValue := 0 }, { name := "BIG_ENDIAN", type := .boolean, accessFlags := 26, slot := 1, constantValue := 0 }, { name := "LOG2_ARRAY_BOOLEAN_INDEX_SCALE", type := .int, accessFlags := 25, slot := 2, constantValue := 0 }, { name := "LOG2_ARRAY_BYTE_INDEX_SCALE", type := .int, accessFlags := 25, slot := 3, constantValue := 0 }, { name := "LOG2_ARRAY_CHAR_INDEX_SCALE", type := .int, accessFlags := 25, slot := 4, constantValue := 0 }, { name := "LOG2_ARRAY_SHORT_INDEX_SCALE", type := .int, accessFlags := 25, slot := 5, constantValue := 0 }, { name := "LOG2_ARRAY_INT_INDEX_SCALE", type := .int, accessFlags := 25, slot := 6, constantValue := 0 }, { name := "LOG2_ARRAY_LONG_INDEX_SCALE", type := .int, accessFlags := 25, slot := 7, constantValue := 0 }, { name := "LOG2_ARRAY_FLOAT_INDEX_SCALE", type := .int, accessFlags := 25, slot := 8, constantValue := 0 }, { name := "LOG2_ARRAY_DOUBLE_INDEX_SCALE", type := .int, accessFlags := 25, slot := 9, constantValue := 0 }, { name := "LOG2_BYTE_BIT_SIZE", type := .int, accessFlags := 26, slot := 10, constantValue := 0 }, { name := "T_BOOLEAN", type := .int, accessFlags := 25, slot := 11, constantValue := 0 }, { name := "T_CHAR", type := .int, accessFlags := 25, slot := 12, constantValue := 0 }, { name := "T_FLOAT", type := .int, accessFlags := 25, slot := 13, constantValue := 0 }, { name := "T_DOUBLE", type := .int, accessFlags := 25, slot := 14, constantValue := 0 }, { name := "T_BYTE", type := .int, accessFlags := 25, slot := 15, constantValue := 0 }, { name := "T_SHORT", type := .int, accessFlags := 25, slot := 16, constantValue := 0 }, { name := "T_INT", type := .int, accessFlags := 25, slot := 17, constantValue := 0 }, { name := "T_LONG", type := .int, accessFlags := 25, slot := 18, constantValue := 0 }, { name := "JLA", type := (.object "jdk/internal/access/JavaLangAccess"), accessFlags := 26, slot := 19, constantValue := 0 }, { name := "SOFT_MAX_ARRAY_LENGTH", type := .int, accessFlags := 25, slot := 20, constantValue := 0 }]
  methods := #[k18m0]
  instanceTypes := #[]
  staticTypes := #[(.object "jdk/internal/misc/Unsafe"), .boolean, .int, .int, .int, .int, .int, .int, .int, .int, .int, .int, .int, .int, .int, .int, .int, .int, .int, (.object "jdk/internal/access/JavaLangAccess"), .int]
  resolved := Array.replicate 378 none
  statics := none }

def pool19 : Array CpInfo := pool [(1, u "java/lang/Cloneable"), (0, .class_ 1), (0, u "java/lang/Object"), (0, .class_ 3)] 3

/-- java/lang/Cloneable -/
def k19 : Class := { plain "java/lang/Cloneable" (some 0) with
  accessFlags := 1537
  interfaces := #[]
  cf := some (fileOf pool19 2 #[] #[] 1537 4 #[] #[])
  fields := #[]
  methods := #[]
  instanceTypes := #[]
  staticTypes := #[]
  resolved := Array.replicate 8 none
  statics := none }

/-- the primitive byte -/
def k20 : Class := { plain "byte" none with kind := .primitive 'B', accessFlags := 0x411 }
/-- [B -/
def k21 : Class := { plain "[B" (some 0) with kind := .array 20 .byte, interfaces := #[19, 4], accessFlags := 1041 }

/-- the primitive char -/
def k22 : Class := { plain "char" none with kind := .primitive 'C', accessFlags := 0x411 }
/-- [C -/
def k23 : Class := { plain "[C" (some 0) with kind := .array 22 .char, interfaces := #[19, 4], accessFlags := 1041 }

/-- the primitive int -/
def k24 : Class := { plain "int" none with kind := .primitive 'I', accessFlags := 0x411 }
/-- [I -/
def k25 : Class := { plain "[I" (some 0) with kind := .array 24 .int, interfaces := #[19, 4], accessFlags := 1041 }

/-- [Ljava/lang/Long; -/
def k26 : Class := { plain "[Ljava/lang/Long;" (some 0) with kind := .array 15 (.object "java/lang/Long"), interfaces := #[19, 4], accessFlags := 1041 }

def heap : Heap := #[{ cls := 6, slots := #[.ref 5, .ref 6, .ref 7, .ref 8, .ref 9, .ref 10, .ref 11, .ref 12, .null, .null], vm := .statics 6 },
  { cls := 9, slots := #[.long 0, .int 1, .null, .int 0, .null, .int 0, .int 0], vm := .statics 9 },
  { cls := 16, slots := #[.ref 4, .null, .int 0], vm := .statics 16 },
  { cls := 17, slots := #[.null, .null, .null], vm := .statics 17 },
  { cls := 26, slots := #[.ref 13, .ref 14, .ref 15, .ref 16, .ref 17, .ref 18, .ref 19, .ref 20, .ref 21, .ref 22, .ref 23, .ref 24, .ref 25, .ref 26, .ref 27, .ref 28, .ref 29, .ref 30, .ref 31, .ref 32, .ref 33, .ref 34, .ref 35, .ref 36, .ref 37, .ref 38, .ref 39, .ref 40, .ref 41, .ref 42, .ref 43, .ref 44, .ref 45, .ref 46, .ref 47, .ref 48, .ref 49, .ref 50, .ref 51, .ref 52, .ref 53, .ref 54, .ref 55, .ref 56, .ref 57, .ref 58, .ref 59, .ref 60, .ref 61, .ref 62, .ref 63, .ref 64, .ref 65, .ref 66, .ref 67, .ref 68, .ref 69, .ref 70, .ref 71, .ref 72, .ref 73, .ref 74, .ref 75, .ref 76, .ref 77, .ref 78, .ref 79, .ref 80, .ref 81, .ref 82, .ref 83, .ref 84, .ref 85, .ref 86, .ref 87, .ref 88, .ref 89, .ref 90, .ref 91, .ref 92, .ref 93, .ref 94, .ref 95, .ref 96, .ref 97, .ref 98, .ref 99, .ref 100, .ref 101, .ref 102, .ref 103, .ref 104, .ref 105, .ref 106, .ref 107, .ref 108, .ref 109, .ref 110, .ref 111, .ref 112, .ref 113, .ref 114, .ref 115, .ref 116, .ref 117, .ref 118, .ref 119, .ref 120, .ref 121, .ref 122, .ref 123, .ref 124, .ref 125, .ref 126, .ref 127, .ref 128, .ref 129, .ref 130, .ref 131, .ref 132, .ref 133, .ref 134, .ref 135, .ref 136, .ref 137, .ref 138, .ref 139, .ref 140, .ref 141, .ref 142, .ref 143, .ref 144, .ref 145, .ref 146, .ref 147, .ref 148, .ref 149, .ref 150, .ref 151, .ref 152, .ref 153, .ref 154, .ref 155, .ref 156, .ref 157, .ref 158, .ref 159, .ref 160, .ref 161, .ref 162, .ref 163, .ref 164, .ref 165, .ref 166, .ref 167, .ref 168, .ref 169, .ref 170, .ref 171, .ref 172, .ref 173, .ref 174, .ref 175, .ref 176, .ref 177, .ref 178, .ref 179, .ref 180, .ref 181, .ref 182, .ref 183, .ref 184, .ref 185, .ref 186, .ref 187, .ref 188, .ref 189, .ref 190, .ref 191, .ref 192, .ref 193, .ref 194, .ref 195, .ref 196, .ref 197, .ref 198, .ref 199, .ref 200, .ref 201, .ref 202, .ref 203, .ref 204, .ref 205, .ref 206, .ref 207, .ref 208, .ref 209, .ref 210, .ref 211, .ref 212, .ref 213, .ref 214, .ref 215, .ref 216, .ref 217, .ref 218, .ref 219, .ref 220, .ref 221, .ref 222, .ref 223, .ref 224, .ref 225, .ref 226, .ref 227, .ref 228, .ref 229, .ref 230, .ref 231, .ref 232, .ref 233, .ref 234, .ref 235, .ref 236, .ref 237, .ref 238, .ref 239, .ref 240, .ref 241, .ref 242, .ref 243, .ref 244, .ref 245, .ref 246, .ref 247, .ref 248, .ref 249, .ref 250, .ref 251, .ref 252, .ref 253, .ref 254, .ref 255, .ref 256, .ref 257, .ref 258, .ref 259, .ref 260, .ref 261, .ref 262, .ref 263, .ref 264, .ref 265, .ref 266, .ref 267, .ref 268], vm := .none },
  { cls := 6, slots := #[.null, .int 0, .int 0, .null, .int 0, .null, .null], vm := .none },
  { cls := 6, slots := #[.null, .int 1, .int 0, .null, .int 0, .null, .null], vm := .none },
  { cls := 6, slots := #[.null, .int 2, .int 0, .null, .int 0, .null, .null], vm := .none },
  { cls := 6, slots := #[.null, .int 3, .int 0, .null, .int 0, .null, .null], vm := .none },
  { cls := 6, slots := #[.null, .int 4, .int 0, .null, .int 0, .null, .null], vm := .none },
  { cls := 6, slots := #[.null, .int 5, .int 0, .null, .int 1, .null, .null], vm := .none },
  { cls := 6, slots := #[.null, .int 6, .int 0, .null, .int 1, .null, .null], vm := .none },
  { cls := 6, slots := #[.null, .int 7, .int 0, .null, .int 1, .null, .null], vm := .none },
  { cls := 15, slots := #[.long (-128)], vm := .none },
  { cls := 15, slots := #[.long (-127)], vm := .none },
  { cls := 15, slots := #[.long (-126)], vm := .none },
  { cls := 15, slots := #[.long (-125)], vm := .none },
  { cls := 15, slots := #[.long (-124)], vm := .none },
  { cls := 15, slots := #[.long (-123)], vm := .none },
  { cls := 15, slots := #[.long (-122)], vm := .none },
  { cls := 15, slots := #[.long (-121)], vm := .none },
  { cls := 15, slots := #[.long (-120)], vm := .none },
  { cls := 15, slots := #[.long (-119)], vm := .none },
  { cls := 15, slots := #[.long (-118)], vm := .none },
  { cls := 15, slots := #[.long (-117)], vm := .none },
  { cls := 15, slots := #[.long (-116)], vm := .none },
  { cls := 15, slots := #[.long (-115)], vm := .none },
  { cls := 15, slots := #[.long (-114)], vm := .none },
  { cls := 15, slots := #[.long (-113)], vm := .none },
  { cls := 15, slots := #[.long (-112)], vm := .none },
  { cls := 15, slots := #[.long (-111)], vm := .none },
  { cls := 15, slots := #[.long (-110)], vm := .none },
  { cls := 15, slots := #[.long (-109)], vm := .none },
  { cls := 15, slots := #[.long (-108)], vm := .none },
  { cls := 15, slots := #[.long (-107)], vm := .none },
  { cls := 15, slots := #[.long (-106)], vm := .none },
  { cls := 15, slots := #[.long (-105)], vm := .none },
  { cls := 15, slots := #[.long (-104)], vm := .none },
  { cls := 15, slots := #[.long (-103)], vm := .none },
  { cls := 15, slots := #[.long (-102)], vm := .none },
  { cls := 15, slots := #[.long (-101)], vm := .none },
  { cls := 15, slots := #[.long (-100)], vm := .none },
  { cls := 15, slots := #[.long (-99)], vm := .none },
  { cls := 15, slots := #[.long (-98)], vm := .none },
  { cls := 15, slots := #[.long (-97)], vm := .none },
  { cls := 15, slots := #[.long (-96)], vm := .none },
  { cls := 15, slots := #[.long (-95)], vm := .none },
  { cls := 15, slots := #[.long (-94)], vm := .none },
  { cls := 15, slots := #[.long (-93)], vm := .none },
  { cls := 15, slots := #[.long (-92)], vm := .none },
  { cls := 15, slots := #[.long (-91)], vm := .none },
  { cls := 15, slots := #[.long (-90)], vm := .none },
  { cls := 15, slots := #[.long (-89)], vm := .none },
  { cls := 15, slots := #[.long (-88)], vm := .none },
  { cls := 15, slots := #[.long (-87)], vm := .none },
  { cls := 15, slots := #[.long (-86)], vm := .none },
  { cls := 15, slots := #[.long (-85)], vm := .none },
  { cls := 15, slots := #[.long (-84)], vm := .none },
  { cls := 15, slots := #[.long (-83)], vm := .none },
  { cls := 15, slots := #[.long (-82)], vm := .none },
  { cls := 15, slots := #[.long (-81)], vm := .none },
  { cls := 15, slots := #[.long (-80)], vm := .none },
  { cls := 15, slots := #[.long (-79)], vm := .none },
  { cls := 15, slots := #[.long (-78)], vm := .none },
  { cls := 15, slots := #[.long (-77)], vm := .none },
  { cls := 15, slots := #[.long (-76)], vm := .none },
  { cls := 15, slots := #[.long (-75)], vm := .none },
  { cls := 15, slots := #[.long (-74)], vm := .none },
  { cls := 15, slots := #[.long (-73)], vm := .none },
  { cls := 15, slots := #[.long (-72)], vm := .none },
  { cls := 15, slots := #[.long (-71)], vm := .none },
  { cls := 15, slots := #[.long (-70)], vm := .none },
  { cls := 15, slots := #[.long (-69)], vm := .none },
  { cls := 15, slots := #[.long (-68)], vm := .none },
  { cls := 15, slots := #[.long (-67)], vm := .none },
  { cls := 15, slots := #[.long (-66)], vm := .none },
  { cls := 15, slots := #[.long (-65)], vm := .none },
  { cls := 15, slots := #[.long (-64)], vm := .none },
  { cls := 15, slots := #[.long (-63)], vm := .none },
  { cls := 15, slots := #[.long (-62)], vm := .none },
  { cls := 15, slots := #[.long (-61)], vm := .none },
  { cls := 15, slots := #[.long (-60)], vm := .none },
  { cls := 15, slots := #[.long (-59)], vm := .none },
  { cls := 15, slots := #[.long (-58)], vm := .none },
  { cls := 15, slots := #[.long (-57)], vm := .none },
  { cls := 15, slots := #[.long (-56)], vm := .none },
  { cls := 15, slots := #[.long (-55)], vm := .none },
  { cls := 15, slots := #[.long (-54)], vm := .none },
  { cls := 15, slots := #[.long (-53)], vm := .none },
  { cls := 15, slots := #[.long (-52)], vm := .none },
  { cls := 15, slots := #[.long (-51)], vm := .none },
  { cls := 15, slots := #[.long (-50)], vm := .none },
  { cls := 15, slots := #[.long (-49)], vm := .none },
  { cls := 15, slots := #[.long (-48)], vm := .none },
  { cls := 15, slots := #[.long (-47)], vm := .none },
  { cls := 15, slots := #[.long (-46)], vm := .none },
  { cls := 15, slots := #[.long (-45)], vm := .none },
  { cls := 15, slots := #[.long (-44)], vm := .none },
  { cls := 15, slots := #[.long (-43)], vm := .none },
  { cls := 15, slots := #[.long (-42)], vm := .none },
  { cls := 15, slots := #[.long (-41)], vm := .none },
  { cls := 15, slots := #[.long (-40)], vm := .none },
  { cls := 15, slots := #[.long (-39)], vm := .none },
  { cls := 15, slots := #[.long (-38)], vm := .none },
  { cls := 15, slots := #[.long (-37)], vm := .none },
  { cls := 15, slots := #[.long (-36)], vm := .none },
  { cls := 15, slots := #[.long (-35)], vm := .none },
  { cls := 15, slots := #[.long (-34)], vm := .none },
  { cls := 15, slots := #[.long (-33)], vm := .none },
  { cls := 15, slots := #[.long (-32)], vm := .none },
  { cls := 15, slots := #[.long (-31)], vm := .none },
  { cls := 15, slots := #[.long (-30)], vm := .none },
  { cls := 15, slots := #[.long (-29)], vm := .none },
  { cls := 15, slots := #[.long (-28)], vm := .none },
  { cls := 15, slots := #[.long (-27)], vm := .none },
  { cls := 15, slots := #[.long (-26)], vm := .none },
  { cls := 15, slots := #[.long (-25)], vm := .none },
  { cls := 15, slots := #[.long (-24)], vm := .none },
  { cls := 15, slots := #[.long (-23)], vm := .none },
  { cls := 15, slots := #[.long (-22)], vm := .none },
  { cls := 15, slots := #[.long (-21)], vm := .none },
  { cls := 15, slots := #[.long (-20)], vm := .none },
  { cls := 15, slots := #[.long (-19)], vm := .none },
  { cls := 15, slots := #[.long (-18)], vm := .none },
  { cls := 15, slots := #[.long (-17)], vm := .none },
  { cls := 15, slots := #[.long (-16)], vm := .none },
  { cls := 15, slots := #[.long (-15)], vm := .none },
  { cls := 15, slots := #[.long (-14)], vm := .none },
  { cls := 15, slots := #[.long (-13)], vm := .none },
  { cls := 15, slots := #[.long (-12)], vm := .none },
  { cls := 15, slots := #[.long (-11)], vm := .none },
  { cls := 15, slots := #[.long (-10)], vm := .none },
  { cls := 15, slots := #[.long (-9)], vm := .none },
  { cls := 15, slots := #[.long (-8)], vm := .none },
  { cls := 15, slots := #[.long (-7)], vm := .none },
  { cls := 15, slots := #[.long (-6)], vm := .none },
  { cls := 15, slots := #[.long (-5)], vm := .none },
  { cls := 15, slots := #[.long (-4)], vm := .none },
  { cls := 15, slots := #[.long (-3)], vm := .none },
  { cls := 15, slots := #[.long (-2)], vm := .none },
  { cls := 15, slots := #[.long (-1)], vm := .none },
  { cls := 15, slots := #[.long 0], vm := .none },
  { cls := 15, slots := #[.long 1], vm := .none },
  { cls := 15, slots := #[.long 2], vm := .none },
  { cls := 15, slots := #[.long 3], vm := .none },
  { cls := 15, slots := #[.long 4], vm := .none },
  { cls := 15, slots := #[.long 5], vm := .none },
  { cls := 15, slots := #[.long 6], vm := .none },
  { cls := 15, slots := #[.long 7], vm := .none },
  { cls := 15, slots := #[.long 8], vm := .none },
  { cls := 15, slots := #[.long 9], vm := .none },
  { cls := 15, slots := #[.long 10], vm := .none },
  { cls := 15, slots := #[.long 11], vm := .none },
  { cls := 15, slots := #[.long 12], vm := .none },
  { cls := 15, slots := #[.long 13], vm := .none },
  { cls := 15, slots := #[.long 14], vm := .none },
  { cls := 15, slots := #[.long 15], vm := .none },
  { cls := 15, slots := #[.long 16], vm := .none },
  { cls := 15, slots := #[.long 17], vm := .none },
  { cls := 15, slots := #[.long 18], vm := .none },
  { cls := 15, slots := #[.long 19], vm := .none },
  { cls := 15, slots := #[.long 20], vm := .none },
  { cls := 15, slots := #[.long 21], vm := .none },
  { cls := 15, slots := #[.long 22], vm := .none },
  { cls := 15, slots := #[.long 23], vm := .none },
  { cls := 15, slots := #[.long 24], vm := .none },
  { cls := 15, slots := #[.long 25], vm := .none },
  { cls := 15, slots := #[.long 26], vm := .none },
  { cls := 15, slots := #[.long 27], vm := .none },
  { cls := 15, slots := #[.long 28], vm := .none },
  { cls := 15, slots := #[.long 29], vm := .none },
  { cls := 15, slots := #[.long 30], vm := .none },
  { cls := 15, slots := #[.long 31], vm := .none },
  { cls := 15, slots := #[.long 32], vm := .none },
  { cls := 15, slots := #[.long 33], vm := .none },
  { cls := 15, slots := #[.long 34], vm := .none },
  { cls := 15, slots := #[.long 35], vm := .none },
  { cls := 15, slots := #[.long 36], vm := .none },
  { cls := 15, slots := #[.long 37], vm := .none },
  { cls := 15, slots := #[.long 38], vm := .none },
  { cls := 15, slots := #[.long 39], vm := .none },
  { cls := 15, slots := #[.long 40], vm := .none },
  { cls := 15, slots := #[.long 41], vm := .none },
  { cls := 15, slots := #[.long 42], vm := .none },
  { cls := 15, slots := #[.long 43], vm := .none },
  { cls := 15, slots := #[.long 44], vm := .none },
  { cls := 15, slots := #[.long 45], vm := .none },
  { cls := 15, slots := #[.long 46], vm := .none },
  { cls := 15, slots := #[.long 47], vm := .none },
  { cls := 15, slots := #[.long 48], vm := .none },
  { cls := 15, slots := #[.long 49], vm := .none },
  { cls := 15, slots := #[.long 50], vm := .none },
  { cls := 15, slots := #[.long 51], vm := .none },
  { cls := 15, slots := #[.long 52], vm := .none },
  { cls := 15, slots := #[.long 53], vm := .none },
  { cls := 15, slots := #[.long 54], vm := .none },
  { cls := 15, slots := #[.long 55], vm := .none },
  { cls := 15, slots := #[.long 56], vm := .none },
  { cls := 15, slots := #[.long 57], vm := .none },
  { cls := 15, slots := #[.long 58], vm := .none },
  { cls := 15, slots := #[.long 59], vm := .none },
  { cls := 15, slots := #[.long 60], vm := .none },
  { cls := 15, slots := #[.long 61], vm := .none },
  { cls := 15, slots := #[.long 62], vm := .none },
  { cls := 15, slots := #[.long 63], vm := .none },
  { cls := 15, slots := #[.long 64], vm := .none },
  { cls := 15, slots := #[.long 65], vm := .none },
  { cls := 15, slots := #[.long 66], vm := .none },
  { cls := 15, slots := #[.long 67], vm := .none },
  { cls := 15, slots := #[.long 68], vm := .none },
  { cls := 15, slots := #[.long 69], vm := .none },
  { cls := 15, slots := #[.long 70], vm := .none },
  { cls := 15, slots := #[.long 71], vm := .none },
  { cls := 15, slots := #[.long 72], vm := .none },
  { cls := 15, slots := #[.long 73], vm := .none },
  { cls := 15, slots := #[.long 74], vm := .none },
  { cls := 15, slots := #[.long 75], vm := .none },
  { cls := 15, slots := #[.long 76], vm := .none },
  { cls := 15, slots := #[.long 77], vm := .none },
  { cls := 15, slots := #[.long 78], vm := .none },
  { cls := 15, slots := #[.long 79], vm := .none },
  { cls := 15, slots := #[.long 80], vm := .none },
  { cls := 15, slots := #[.long 81], vm := .none },
  { cls := 15, slots := #[.long 82], vm := .none },
  { cls := 15, slots := #[.long 83], vm := .none },
  { cls := 15, slots := #[.long 84], vm := .none },
  { cls := 15, slots := #[.long 85], vm := .none },
  { cls := 15, slots := #[.long 86], vm := .none },
  { cls := 15, slots := #[.long 87], vm := .none },
  { cls := 15, slots := #[.long 88], vm := .none },
  { cls := 15, slots := #[.long 89], vm := .none },
  { cls := 15, slots := #[.long 90], vm := .none },
  { cls := 15, slots := #[.long 91], vm := .none },
  { cls := 15, slots := #[.long 92], vm := .none },
  { cls := 15, slots := #[.long 93], vm := .none },
  { cls := 15, slots := #[.long 94], vm := .none },
  { cls := 15, slots := #[.long 95], vm := .none },
  { cls := 15, slots := #[.long 96], vm := .none },
  { cls := 15, slots := #[.long 97], vm := .none },
  { cls := 15, slots := #[.long 98], vm := .none },
  { cls := 15, slots := #[.long 99], vm := .none },
  { cls := 15, slots := #[.long 100], vm := .none },
  { cls := 15, slots := #[.long 101], vm := .none },
  { cls := 15, slots := #[.long 102], vm := .none },
  { cls := 15, slots := #[.long 103], vm := .none },
  { cls := 15, slots := #[.long 104], vm := .none },
  { cls := 15, slots := #[.long 105], vm := .none },
  { cls := 15, slots := #[.long 106], vm := .none },
  { cls := 15, slots := #[.long 107], vm := .none },
  { cls := 15, slots := #[.long 108], vm := .none },
  { cls := 15, slots := #[.long 109], vm := .none },
  { cls := 15, slots := #[.long 110], vm := .none },
  { cls := 15, slots := #[.long 111], vm := .none },
  { cls := 15, slots := #[.long 112], vm := .none },
  { cls := 15, slots := #[.long 113], vm := .none },
  { cls := 15, slots := #[.long 114], vm := .none },
  { cls := 15, slots := #[.long 115], vm := .none },
  { cls := 15, slots := #[.long 116], vm := .none },
  { cls := 15, slots := #[.long 117], vm := .none },
  { cls := 15, slots := #[.long 118], vm := .none },
  { cls := 15, slots := #[.long 119], vm := .none },
  { cls := 15, slots := #[.long 120], vm := .none },
  { cls := 15, slots := #[.long 121], vm := .none },
  { cls := 15, slots := #[.long 122], vm := .none },
  { cls := 15, slots := #[.long 123], vm := .none },
  { cls := 15, slots := #[.long 124], vm := .none },
  { cls := 15, slots := #[.long 125], vm := .none },
  { cls := 15, slots := #[.long 126], vm := .none },
  { cls := 15, slots := #[.long 127], vm := .none }]
def classes : Array Class := #[k0, k1, k2, k3, k4, k5, k6, k7, k8, k9, k10, k11, k12, k13, k14, k15, k16, k17, k18, k19, k20, k21, k22, k23, k24, k25, k26]
def interned : List (Array UInt16 × Addr) := []
def slotsUsed : Nat := 591
def theMethod : MethodId := ⟨1, 2⟩
def args0 : Array Value := #[.int 5, .int 0, .int 65, .int 66, .int 7, .int 8]
def aboutOver (below : List Frame) : State where
  vm := { classes := classes, interned := interned.toArray }
  heap := heap
  slotsUsed := slotsUsed
  threads := #[{ frames := .invoking theMethod args0 :: below }]
def below0 : List Frame := [.native { method := ⟨0, 0⟩, args := #[] }]
def about1 : State := aboutOver below0
def p0 : Program := .bare "" "" ""
def e0 : Env := launch0.env 0 0 0
theorem w_frames : about1.frames = Frame.invoking theMethod args0 :: below0 := rfl
set_option maxRecDepth 65536 in
theorem w_args : argsFit about1.vm theMethod args0 = true := by decide +kernel
set_option maxRecDepth 65536 in
theorem w_heap : heapFits about1 = true := by decide +kernel
set_option maxRecDepth 65536 in
theorem w_runnable : about1.curStatus? = some .runnable := by decide +kernel
set_option maxRecDepth 65536 in
theorem w_alone : about1.alone = true := by decide +kernel
set_option maxRecDepth 65536 in
theorem w_named : about1.methodNamed? x = some theMethod := by decide +kernel
set_option maxRecDepth 65536 in
theorem w_hears : about1.hears theMethod below0 = true := by decide +kernel
set_option maxRecDepth 65536 in
theorem w_ripe : about1.ripe theMethod args0 below0 = true := by decide +kernel
theorem w_running : about1.status = .running := rfl
set_option maxRecDepth 65536 in
theorem w_room : about1.hasRoom e0.platform room_1 = true :=
  launch0.hasRoom_least _ room_1 (by decide +kernel) (by decide +kernel) (by decide +kernel) (by decide +kernel) (by decide +kernel) (by decide +kernel)
theorem allAtoms_all (ts : List Jvm.Cond) (a : Array Jvm.Value) (st : Jvm.State) : (allAtoms ts).before a st = ts.all (fun c => c.before a st) := by
  induction ts with
  | nil => rfl
  | cons c t ih =>
    show (Jvm.Cond.and c (allAtoms t)).before a st = _
    rw [Jvm.Cond.before_and, ih, List.all_cons]
def words1 : List Jvm.Cond := Jvm.Cond.code x code maxLocals ret :: tables_1
/-- a 'code' word, met by the world's own term for the bytes: nothing is compared byte by byte -/
theorem code_word {y : MethodName} {bytes : ByteArray} {mx : Nat} {rt : Option FieldType} {a : Array Value} {s : State} {m : MethodId} {meth : Method} {c : Code} (h1 : s.methodNamed? y = some m) (h2 : s.vm.method? m = some meth) (h3 : meth.code = some c) (h4 : c.code = bytes)
    (h5 : (c.maxLocals == mx && c.exceptionTable.isEmpty && decide (c.maxStack ≤ mostOperands) && decide (meth.sig.returnType = rt) && !meth.locks && decide (parseMethodDescriptor y.desc = some meth.sig)) = true) : (Jvm.Cond.code y bytes mx rt).before a s = true := by
  simp only [Bool.and_eq_true, beq_iff_eq, Bool.not_eq_true', decide_eq_true_eq] at h5
  obtain ⟨⟨⟨⟨⟨g1, g2⟩, g3⟩, g4⟩, g5⟩, g6⟩ := h5
  simp [Cond.before, Cond.holds, Cond.value, h1, h2, h3, h4, g1, g2, g3, g4, g5, g6]
def isCode : Jvm.Cond → Bool
  | .code _ _ _ _ => true
  | _ => false
theorem all_split {L : List Jvm.Cond} {P : Jvm.Cond → Bool} (h1 : L.all (fun c => isCode c || P c) = true) (h2 : ∀ c ∈ L.filter isCode, P c = true) : L.all P = true := by
  refine List.all_eq_true.mpr fun c hc => ?_
  have h := List.all_eq_true.mp h1 c hc
  rcases Bool.eq_false_or_eq_true (isCode c) with hi | hi
  · exact h2 c (List.mem_filter.mpr ⟨hc, hi⟩)
  · simpa [hi] using h
set_option maxRecDepth 65536 in
theorem w_c0 : (Jvm.Cond.code x code maxLocals ret).before args0 about1 = true := code_word (m := ⟨1, 2⟩) (meth := k1m2) (c := k1c2) (by decide +kernel) rfl rfl rfl (by decide +kernel)
set_option maxRecDepth 65536 in
theorem w_c1 : (Jvm.Cond.code ({ cls := "com/example/deltatrace/deltatrace/LogEventOnRootsPinLaw", name := "pick", desc := "(I)Lcom/example/deltatrace/deltatrace/LogEvent$Op;" } : Jvm.MethodName) method_2_code (1 : Nat) (Option.some (Jvm.ClassFile.FieldType.object "com/example/deltatrace/deltatrace/LogEvent$Op"))).before args0 about1 = true := code_word (m := ⟨1, 1⟩) (meth := k1m1) (c := k1c1) (by decide +kernel) rfl rfl rfl (by decide +kernel)
set_option maxRecDepth 65536 in
theorem w_c2 : (Jvm.Cond.code ({ cls := "java/lang/String", name := "<init>", desc := "([C)V" } : Jvm.MethodName) jdk_42_method_3_code (2 : Nat) (Option.none : Option Jvm.ClassFile.FieldType)).before args0 about1 = true := code_word (m := ⟨9, 1⟩) (meth := k9m1) (c := k9c1) (by decide +kernel) rfl rfl rfl (by decide +kernel)
set_option maxRecDepth 65536 in
theorem w_c3 : (Jvm.Cond.code ({ cls := "java/lang/String", name := "<init>", desc := "([CIILjava/lang/Void;)V" } : Jvm.MethodName) jdk_42_method_149_code (6 : Nat) (Option.none : Option Jvm.ClassFile.FieldType)).before args0 about1 = true := code_word (m := ⟨9, 3⟩) (meth := k9m3) (c := k9c3) (by decide +kernel) rfl rfl rfl (by decide +kernel)
set_option maxRecDepth 65536 in
theorem w_c4 : (Jvm.Cond.code ({ cls := "java/lang/Object", name := "<init>", desc := "()V" } : Jvm.MethodName) object_method_1_code (1 : Nat) (Option.none : Option Jvm.ClassFile.FieldType)).before args0 about1 = true := code_word (m := ⟨0, 0⟩) (meth := k0m0) (c := k0c0) (by decide +kernel) rfl rfl rfl (by decide +kernel)
set_option maxRecDepth 65536 in
theorem w_c5 : (Jvm.Cond.code ({ cls := "java/lang/StringUTF16", name := "compress", desc := "([CII)[B" } : Jvm.MethodName) jdk_52_method_16_code (6 : Nat) (Option.some (Jvm.ClassFile.FieldType.array Jvm.ClassFile.FieldType.byte))).before args0 about1 = true := code_word (m := ⟨10, 2⟩) (meth := k10m2) (c := k10c2) (by decide +kernel) rfl rfl rfl (by decide +kernel)
set_option maxRecDepth 65536 in
theorem w_c6 : (Jvm.Cond.code ({ cls := "java/lang/StringUTF16", name := "compress", desc := "([CI[BII)I" } : Jvm.MethodName) jdk_52_method_21_code (7 : Nat) (Option.some Jvm.ClassFile.FieldType.int)).before args0 about1 = true := code_word (m := ⟨10, 3⟩) (meth := k10m3) (c := k10c3) (by decide +kernel) rfl rfl rfl (by decide +kernel)
set_option maxRecDepth 65536 in
theorem w_c7 : (Jvm.Cond.code ({ cls := "java/lang/StringUTF16", name := "coderFromArrayLen", desc := "([BI)B" } : Jvm.MethodName) jdk_52_method_15_code (2 : Nat) (Option.some Jvm.ClassFile.FieldType.byte)).before args0 about1 = true := code_word (m := ⟨10, 1⟩) (meth := k10m1) (c := k10c1) (by decide +kernel) rfl rfl rfl (by decide +kernel)
set_option maxRecDepth 65536 in
theorem w_c8 : (Jvm.Cond.code ({ cls := "com/example/deltatrace/deltatrace/LogEvent", name := "<init>", desc := "(ILcom/example/deltatrace/deltatrace/LogEvent$Op;Ljava/lang/String;Ljava/lang/String;Ljava/lang/String;Ljava/lang/Object;Ljava/lang/Object;III)V" } : Jvm.MethodName) prog_12_method_1_code (11 : Nat) (Option.none : Option Jvm.ClassFile.FieldType)).before args0 about1 = true := code_word (m := ⟨12, 0⟩) (meth := k12m0) (c := k12c0) (by decide +kernel) rfl rfl rfl (by decide +kernel)
set_option maxRecDepth 65536 in
theorem w_c9 : (Jvm.Cond.code ({ cls := "java/lang/Record", name := "<init>", desc := "()V" } : Jvm.MethodName) jdk_30_method_1_code (1 : Nat) (Option.none : Option Jvm.ClassFile.FieldType)).before args0 about1 = true := code_word (m := ⟨11, 0⟩) (meth := k11m0) (c := k11c0) (by decide +kernel) rfl rfl rfl (by decide +kernel)
set_option maxRecDepth 65536 in
theorem w_c10 : (Jvm.Cond.code ({ cls := "com/example/deltatrace/deltatrace/LogEvent", name := "onRoots", desc := "()Z" } : Jvm.MethodName) prog_12_method_13_code (1 : Nat) (Option.some Jvm.ClassFile.FieldType.boolean)).before args0 about1 = true := code_word (m := ⟨12, 1⟩) (meth := k12m1) (c := k12c1) (by decide +kernel) rfl rfl rfl (by decide +kernel)
set_option maxRecDepth 65536 in
theorem w_c11 : (Jvm.Cond.code ({ cls := "com/example/deltatrace/deltatrace/LogEvent$Op", name := "onList", desc := "()Z" } : Jvm.MethodName) prog_13_method_6_code (1 : Nat) (Option.some Jvm.ClassFile.FieldType.boolean)).before args0 about1 = true := code_word (m := ⟨6, 0⟩) (meth := k6m0) (c := k6c0) (by decide +kernel) rfl rfl rfl (by decide +kernel)
set_option maxRecDepth 65536 in
theorem w_c12 : (Jvm.Cond.code ({ cls := "java/lang/String", name := "valueOf", desc := "(C)Ljava/lang/String;" } : Jvm.MethodName) jdk_42_method_139_code (1 : Nat) (Option.some (Jvm.ClassFile.FieldType.object "java/lang/String"))).before args0 about1 = true := code_word (m := ⟨9, 2⟩) (meth := k9m2) (c := k9c2) (by decide +kernel) rfl rfl rfl (by decide +kernel)
set_option maxRecDepth 65536 in
theorem w_c13 : (Jvm.Cond.code ({ cls := "java/lang/StringLatin1", name := "canEncode", desc := "(C)Z" } : Jvm.MethodName) jdk_43_method_3_code (1 : Nat) (Option.some Jvm.ClassFile.FieldType.boolean)).before args0 about1 = true := code_word (m := ⟨13, 1⟩) (meth := k13m1) (c := k13c1) (by decide +kernel) rfl rfl rfl (by decide +kernel)
set_option maxRecDepth 65536 in
theorem w_c14 : (Jvm.Cond.code ({ cls := "java/lang/StringLatin1", name := "toBytes", desc := "(C)[B" } : Jvm.MethodName) jdk_43_method_46_code (1 : Nat) (Option.some (Jvm.ClassFile.FieldType.array Jvm.ClassFile.FieldType.byte))).before args0 about1 = true := code_word (m := ⟨13, 2⟩) (meth := k13m2) (c := k13c2) (by decide +kernel) rfl rfl rfl (by decide +kernel)
set_option maxRecDepth 65536 in
theorem w_c15 : (Jvm.Cond.code ({ cls := "java/lang/String", name := "<init>", desc := "([BB)V" } : Jvm.MethodName) jdk_42_method_151_code (3 : Nat) (Option.none : Option Jvm.ClassFile.FieldType)).before args0 about1 = true := code_word (m := ⟨9, 4⟩) (meth := k9m4) (c := k9c4) (by decide +kernel) rfl rfl rfl (by decide +kernel)
set_option maxRecDepth 65536 in
theorem w_c16 : (Jvm.Cond.code ({ cls := "java/lang/Long", name := "valueOf", desc := "(J)Ljava/lang/Long;" } : Jvm.MethodName) jdk_35_method_24_code (3 : Nat) (Option.some (Jvm.ClassFile.FieldType.object "java/lang/Long"))).before args0 about1 = true := code_word (m := ⟨15, 0⟩) (meth := k15m0) (c := k15c0) (by decide +kernel) rfl rfl rfl (by decide +kernel)
set_option maxRecDepth 65536 in
theorem w_c17 : (Jvm.Cond.code ({ cls := "java/lang/Long", name := "<init>", desc := "(J)V" } : Jvm.MethodName) jdk_35_method_26_code (3 : Nat) (Option.none : Option Jvm.ClassFile.FieldType)).before args0 about1 = true := code_word (m := ⟨15, 1⟩) (meth := k15m1) (c := k15c1) (by decide +kernel) rfl rfl rfl (by decide +kernel)
set_option maxRecDepth 65536 in
theorem w_c18 : (Jvm.Cond.code ({ cls := "java/lang/Number", name := "<init>", desc := "()V" } : Jvm.MethodName) jdk_18_method_1_code (1 : Nat) (Option.none : Option Jvm.ClassFile.FieldType)).before args0 about1 = true := code_word (m := ⟨14, 0⟩) (meth := k14m0) (c := k14c0) (by decide +kernel) rfl rfl rfl (by decide +kernel)
def codes1 : List Jvm.Cond := [Jvm.Cond.code x code maxLocals ret, Jvm.Cond.code ({ cls := "com/example/deltatrace/deltatrace/LogEventOnRootsPinLaw", name := "pick", desc := "(I)Lcom/example/deltatrace/deltatrace/LogEvent$Op;" } : Jvm.MethodName) method_2_code (1 : Nat) (Option.some (Jvm.ClassFile.FieldType.object "com/example/deltatrace/deltatrace/LogEvent$Op")), Jvm.Cond.code ({ cls := "java/lang/String", name := "<init>", desc := "([C)V" } : Jvm.MethodName) jdk_42_method_3_code (2 : Nat) (Option.none : Option Jvm.ClassFile.FieldType), Jvm.Cond.code ({ cls := "java/lang/String", name := "<init>", desc := "([CIILjava/lang/Void;)V" } : Jvm.MethodName) jdk_42_method_149_code (6 : Nat) (Option.none : Option Jvm.ClassFile.FieldType), Jvm.Cond.code ({ cls := "java/lang/Object", name := "<init>", desc := "()V" } : Jvm.MethodName) object_method_1_code (1 : Nat) (Option.none : Option Jvm.ClassFile.FieldType), Jvm.Cond.code ({ cls := "java/lang/StringUTF16", name := "compress", desc := "([CII)[B" } : Jvm.MethodName) jdk_52_method_16_code (6 : Nat) (Option.some (Jvm.ClassFile.FieldType.array Jvm.ClassFile.FieldType.byte)), Jvm.Cond.code ({ cls := "java/lang/StringUTF16", name := "compress", desc := "([CI[BII)I" } : Jvm.MethodName) jdk_52_method_21_code (7 : Nat) (Option.some Jvm.ClassFile.FieldType.int), Jvm.Cond.code ({ cls := "java/lang/StringUTF16", name := "coderFromArrayLen", desc := "([BI)B" } : Jvm.MethodName) jdk_52_method_15_code (2 : Nat) (Option.some Jvm.ClassFile.FieldType.byte), Jvm.Cond.code ({ cls := "com/example/deltatrace/deltatrace/LogEvent", name := "<init>", desc := "(ILcom/example/deltatrace/deltatrace/LogEvent$Op;Ljava/lang/String;Ljava/lang/String;Ljava/lang/String;Ljava/lang/Object;Ljava/lang/Object;III)V" } : Jvm.MethodName) prog_12_method_1_code (11 : Nat) (Option.none : Option Jvm.ClassFile.FieldType), Jvm.Cond.code ({ cls := "java/lang/Record", name := "<init>", desc := "()V" } : Jvm.MethodName) jdk_30_method_1_code (1 : Nat) (Option.none : Option Jvm.ClassFile.FieldType), Jvm.Cond.code ({ cls := "com/example/deltatrace/deltatrace/LogEvent", name := "onRoots", desc := "()Z" } : Jvm.MethodName) prog_12_method_13_code (1 : Nat) (Option.some Jvm.ClassFile.FieldType.boolean), Jvm.Cond.code ({ cls := "com/example/deltatrace/deltatrace/LogEvent$Op", name := "onList", desc := "()Z" } : Jvm.MethodName) prog_13_method_6_code (1 : Nat) (Option.some Jvm.ClassFile.FieldType.boolean), Jvm.Cond.code ({ cls := "java/lang/String", name := "valueOf", desc := "(C)Ljava/lang/String;" } : Jvm.MethodName) jdk_42_method_139_code (1 : Nat) (Option.some (Jvm.ClassFile.FieldType.object "java/lang/String")), Jvm.Cond.code ({ cls := "java/lang/StringLatin1", name := "canEncode", desc := "(C)Z" } : Jvm.MethodName) jdk_43_method_3_code (1 : Nat) (Option.some Jvm.ClassFile.FieldType.boolean), Jvm.Cond.code ({ cls := "java/lang/StringLatin1", name := "toBytes", desc := "(C)[B" } : Jvm.MethodName) jdk_43_method_46_code (1 : Nat) (Option.some (Jvm.ClassFile.FieldType.array Jvm.ClassFile.FieldType.byte)), Jvm.Cond.code ({ cls := "java/lang/String", name := "<init>", desc := "([BB)V" } : Jvm.MethodName) jdk_42_method_151_code (3 : Nat) (Option.none : Option Jvm.ClassFile.FieldType), Jvm.Cond.code ({ cls := "java/lang/Long", name := "valueOf", desc := "(J)Ljava/lang/Long;" } : Jvm.MethodName) jdk_35_method_24_code (3 : Nat) (Option.some (Jvm.ClassFile.FieldType.object "java/lang/Long")), Jvm.Cond.code ({ cls := "java/lang/Long", name := "<init>", desc := "(J)V" } : Jvm.MethodName) jdk_35_method_26_code (3 : Nat) (Option.none : Option Jvm.ClassFile.FieldType), Jvm.Cond.code ({ cls := "java/lang/Number", name := "<init>", desc := "()V" } : Jvm.MethodName) jdk_18_method_1_code (1 : Nat) (Option.none : Option Jvm.ClassFile.FieldType)]
set_option maxRecDepth 65536 in
theorem codes_eq : words1.filter isCode = codes1 := rfl
theorem w_codes : ∀ c ∈ words1.filter isCode, c.before args0 about1 = true := by
  rw [codes_eq]
  intro c hc
  simp only [codes1, List.mem_cons, List.not_mem_nil, or_false] at hc
  rcases hc with rfl | rfl | rfl | rfl | rfl | rfl | rfl | rfl | rfl | rfl | rfl | rfl | rfl | rfl | rfl | rfl | rfl | rfl | rfl
  · exact w_c0
  · exact w_c1
  · exact w_c2
  · exact w_c3
  · exact w_c4
  · exact w_c5
  · exact w_c6
  · exact w_c7
  · exact w_c8
  · exact w_c9
  · exact w_c10
  · exact w_c11
  · exact w_c12
  · exact w_c13
  · exact w_c14
  · exact w_c15
  · exact w_c16
  · exact w_c17
  · exact w_c18
set_option maxRecDepth 65536 in
theorem w_t1 : (words1.take 24).all (fun c => isCode c || c.before args0 about1) = true := by decide +kernel
set_option maxRecDepth 65536 in
theorem w_t2 : ((words1.drop 24).take 24).all (fun c => isCode c || c.before args0 about1) = true := by decide +kernel
set_option maxRecDepth 65536 in
theorem w_t3 : (((words1.drop 24).drop 24).take 24).all (fun c => isCode c || c.before args0 about1) = true := by decide +kernel
set_option maxRecDepth 65536 in
theorem w_t4 : ((((words1.drop 24).drop 24).drop 24).take 24).all (fun c => isCode c || c.before args0 about1) = true := by decide +kernel
set_option maxRecDepth 65536 in
theorem w_t5 : (((((words1.drop 24).drop 24).drop 24).drop 24).take 24).all (fun c => isCode c || c.before args0 about1) = true := by decide +kernel
set_option maxRecDepth 65536 in
theorem w_t6 : (((((words1.drop 24).drop 24).drop 24).drop 24).drop 24).all (fun c => isCode c || c.before args0 about1) = true := by decide +kernel
theorem w_tables : (allAtoms (Jvm.Cond.code x code maxLocals ret :: tables_1)).before args0 about1 = true := by
  rw [allAtoms_all]
  show words1.all (fun c => c.before args0 about1) = true
  refine all_split ?_ w_codes
  rw [← List.take_append_drop 24 words1, List.all_append, w_t1, ← List.take_append_drop 24 (words1.drop 24), List.all_append, w_t2, ← List.take_append_drop 24 ((words1.drop 24).drop 24), List.all_append, w_t3, ← List.take_append_drop 24 (((words1.drop 24).drop 24).drop 24), List.all_append, w_t4, ← List.take_append_drop 24 ((((words1.drop 24).drop 24).drop 24).drop 24), List.all_append, w_t5, w_t6]
  rfl
set_option maxRecDepth 65536 in
theorem w_rest : rest_1_c.before args0 about1 = true := by decide +kernel
set_option maxRecDepth 65536 in
theorem w_case : (Jvm.Cond.and given_1 narrow_1).before args0 about1 = true := by decide +kernel
theorem w_applies : (headSpec (Jvm.Cond.code x code maxLocals ret :: tables_1) room_1).applies x e0.platform about1 = true :=
  (Spec.applies_iff w_frames).mpr ⟨w_running, w_runnable, w_alone, w_named, w_hears, w_ripe, w_room, w_tables⟩
theorem atStart : AtStart classFile x code maxLocals ret World_1 tables_1 room_1 Calls_1 rest_1 Pre_1 launch0 p0 e0 about1 theMethod args0 below0 :=
  ⟨lists_1, trivial, launch0.admits_env _ _ _, launch0.least_env, fairChoices_fair.cas, fairChoices_fair.clock, w_frames, w_args, w_heap, w_applies, trivial, w_rest, w_case⟩
end start1
theorem witness_1 : WitnessClaimed_1 := ⟨start1.p0, start1.e0, start1.about1, start1.theMethod, start1.args0, start1.below0, start1.atStart⟩
end Jvm.Pilot.@@N@@
