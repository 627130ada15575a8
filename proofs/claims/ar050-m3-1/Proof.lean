import JvmDerived
import JvmDerived.Pilot.@@N@@Statement
import JvmDerived.Pilot.@@N@@Code
set_option linter.unusedVariables false
set_option linter.unusedSimpArgs false
namespace Jvm.RoadKit
open Sem ClassFile Op Lib Jvm.Stand Jvm.Free Jvm.LawKit
section OwnKit
variable {p : Program} {l : Launch} {e : Env} {R : Room} {s : State} {m : MethodId} {args : Array Value} {below : List Frame} {meth : Method} {c : Code} {T : State} {locs : List Loc} {cells slots : Nat} {Z : State} {a0 : Array Value} {h h' : Heap}
/-- from this frame on the method ends, and Post says how -/
def own_Fin (p : Program) (e : Env) (below : List Frame) (Post : Outcome → State → Prop) (T : State) (g : JFrame) : Prop :=
  ∃ (t : State) (o : Outcome), Steps p.tables e below (T.setTop g) t ∧ t.status = .running ∧ Ended t below o ∧ Post o t
theorem own_step {Post : Outcome → State → Prop} {T T' : State} {g g' : JFrame} (st : ∀ t, Steps p.tables e below (T'.setTop g') t → Steps p.tables e below (T.setTop g) t) (k : own_Fin p e below Post T' g') : own_Fin p e below Post T g := by
  obtain ⟨t, o, a, b⟩ := k
  exact ⟨t, o, st _ a, b⟩
abbrev own_PostN (s : State) (rm : Room) (Q : Option Value → Heap → List Loc → Prop) : Outcome → State → Prop := fun o U' => ∃ v L, o = .returned v ∧ Q v U'.heap L ∧ FrameEnd s o U' L rm.cells rm.slots
/-- a body's contract: for these arguments, at this heap, over tables warmer than Z's -/
def own_Con (l : Launch) (Z : State) (y : MethodName) (bytes : ByteArray) (maxL : Nat) (ret : Option FieldType) (rm : Room) (as' : Array Value) (h : Heap) (Q : Option Value → Heap → List Loc → Prop) : Prop :=
  ∀ ws : List Cond, MetFree l y (head1 (Cond.code y bytes maxL ret :: ws) rm) (fun a U => a = as' ∧ Z.Warmed39 U.vm ∧ U.heap = h) (fun _ _ _ _ _ => True) (fun _ U o U' => ∃ v L, o = .returned v ∧ Q v U'.heap L ∧ FrameEnd U o U' L rm.cells rm.slots)
theorem own_con {y : MethodName} {bytes : ByteArray} {maxL : Nat} {ret : Option FieldType} {rm : Room} {as' : Array Value} {Q : Option Value → Heap → List Loc → Prop} {ls : Array Slot} (hpl : plainName y.cls = true) (ef : ∀ m, entryFrame m as' maxL = mkF m 0 ls [])
    (body : ∀ (p : Program) (e : Env) (s : State) (m : MethodId) (below : List Frame) (meth : Method) (c : Code) (s₁ : State), p.tables.exec = Jvm.exec → c.code = bytes → c.maxLocals = maxL → s.vm.findClass y.cls = some m.cls → meth.name = y.name → meth.sig.returnType = ret → meth.locks = false → Z.Warmed39 s.vm →
      Stand p l e rm s m as' below meth c s₁ [] 0 0 → s₁.heap = h → own_Fin p e below (own_PostN s rm Q) s₁ (mkF m 0 ls [])) : own_Con l Z y bytes maxL ret rm as' h Q := by
  intro ws
  refine MetFree.of_bodySF (plainFor_of_name hpl) hisR ?_
  intro p e s m args below meth c s₁ Bd hml0 hP hK
  obtain ⟨rfl, hZ, hh⟩ := hP
  have k := body p e s m below meth c s₁ Bd.exec Bd.bytes hml0 (findClass_of_methodNamed Bd.named) (name_of_methodNamed Bd.named Bd.method).1 Bd.returns Bd.notSynchronized hZ (Stand.of_body Bd) (by rw [← hh, Bd.state]; rfl)
  rw [← ef m] at k
  exact k
theorem own_ret {rm : Room} {Q : Option Value → Heap → List Loc → Prop} (X : Stand p l e R s m args below meth c T locs cells slots) (hlk : meth.locks = false) {v : Option Value} (hv : meth.sig.returnType = none → v = none) {g : JFrame}
    (st : ∀ fs, (∀ (f : JFrame) (acts : List Action), f.method = m → f.locked = none → f.entered = [] → (doReturn e (T.setTop f) acts v).1 = T.setFrames fs) → Steps p.tables e below (T.setTop g) (T.setFrames fs))
    (eT : T.heap = h) (hQ : Q v h locs) (hc : cells ≤ rm.cells) (hs : slots ≤ rm.slots) : own_Fin p e below (own_PostN s rm Q) T g := by
  obtain ⟨fs, hr, hrun, hended, hW, hsame⟩ := X.leave (v := v) hv hlk
  refine ⟨_, _, st fs hr, hrun, hended, v, locs, rfl, ?_, ⟨_, rfl⟩, hW, hsame.mono hc hs⟩
  show Q v T.heap locs
  rw [eT]; exact hQ
theorem own_retV {rm : Room} {Q : Option Value → Heap → List Loc → Prop} (X : Stand p l e R s m args below meth c T locs cells slots) (hx : p.tables.exec = Jvm.exec) (hlk : meth.locks = false) (hret : meth.sig.returnType = none) {pc : Nat} {Ls : Array Slot} (hd : decode c.code pc = .ok (.return_, 1))
    (eT : T.heap = h) (hQ : Q none h locs) (hc : cells ≤ rm.cells) (hs : slots ≤ rm.slots) : own_Fin p e below (own_PostN s rm Q) T (mkF m pc Ls []) :=
  own_ret X hlk (fun _ => rfl) (fun fs hr => X.returnOut hx hret hd hr) eT hQ hc hs
theorem own_retN {rm : Room} {Q : Option Value → Heap → List Loc → Prop} (X : Stand p l e R s m args below meth c T locs cells slots) (hx : p.tables.exec = Jvm.exec) (hlk : meth.locks = false) {t : FieldType} (hret : meth.sig.returnType = some t) (ht : t = .boolean ∨ t = .byte ∨ t = .char ∨ t = .short) {pc : Nat} {Ls : Array Slot} {z : Int32} {rest : List Value} (hd : decode c.code pc = .ok (.ireturn, 1))
    (eT : T.heap = h) (hQ : Q (some (.int (nar t z))) h locs) (hc : cells ≤ rm.cells) (hs : slots ≤ rm.slots) : own_Fin p e below (own_PostN s rm Q) T (mkF m pc Ls (.int z :: rest)) :=
  own_ret X hlk (fun q => by rw [hret] at q; cases q) (fun fs hr => retN X hx hret ht hd hr) eT hQ hc hs
theorem own_retI {rm : Room} {Q : Option Value → Heap → List Loc → Prop} (X : Stand p l e R s m args below meth c T locs cells slots) (hx : p.tables.exec = Jvm.exec) (hlk : meth.locks = false) (hret : meth.sig.returnType = some .int) {pc : Nat} {Ls : Array Slot} {z : Int32} {rest : List Value} (hd : decode c.code pc = .ok (.ireturn, 1))
    (eT : T.heap = h) (hQ : Q (some (.int z)) h locs) (hc : cells ≤ rm.cells) (hs : slots ≤ rm.slots) : own_Fin p e below (own_PostN s rm Q) T (mkF m pc Ls (.int z :: rest)) :=
  own_ret X hlk (fun q => by rw [hret] at q; cases q) (fun fs hr => retOut X hx hret rfl (Or.inl ⟨rfl, Or.inl rfl, z, rfl⟩) hd hr) eT hQ hc hs
theorem own_retL {rm : Room} {Q : Option Value → Heap → List Loc → Prop} (X : Stand p l e R s m args below meth c T locs cells slots) (hx : p.tables.exec = Jvm.exec) (hlk : meth.locks = false) (hret : meth.sig.returnType = some .long) {pc : Nat} {Ls : Array Slot} {z : Int64} {rest : List Value} (hd : decode c.code pc = .ok (.lreturn, 1))
    (eT : T.heap = h) (hQ : Q (some (.long z)) h locs) (hc : cells ≤ rm.cells) (hs : slots ≤ rm.slots) : own_Fin p e below (own_PostN s rm Q) T (mkF m pc Ls (.long z :: rest)) :=
  own_ret X hlk (fun q => by rw [hret] at q; cases q) (fun fs hr => retOut X hx hret rfl (Or.inr (Or.inl ⟨rfl, rfl, z, rfl⟩)) hd hr) eT hQ hc hs
theorem own_retA {rm : Room} {Q : Option Value → Heap → List Loc → Prop} (X : Stand p l e R s m args below meth c T locs cells slots) (hx : p.tables.exec = Jvm.exec) (hlk : meth.locks = false) {t : FieldType} (hret : meth.sig.returnType = some t) {w : Value} (hn : narrow t w = w) (ht : t.isReference = true) (hw : w.isRef = true) {pc : Nat} {Ls : Array Slot} {rest : List Value} (hd : decode c.code pc = .ok (.areturn, 1))
    (eT : T.heap = h) (hQ : Q (some w) h locs) (hc : cells ≤ rm.cells) (hs : slots ≤ rm.slots) : own_Fin p e below (own_PostN s rm Q) T (mkF m pc Ls (w :: rest)) :=
  own_ret X hlk (fun q => by rw [hret] at q; cases q) (fun fs hr => retOut X hx hret hn (Or.inr (Or.inr (Or.inr (Or.inr ⟨rfl, ht, hw⟩)))) hd hr) eT hQ hc hs
/-- a constructor, by its contract -/
theorem own_callC {y : MethodName} {bytes : ByteArray} {maxL : Nat} {rm : Room} {Q : Option Value → Heap → List Loc → Prop} {own : String} {index W : Nat} (X : Stand p l e R s m args below meth c T locs cells slots) (hx : p.tables.exec = Jvm.exec) (hZ : Z.Warmed39 s.vm) (hown : s.vm.findClass own = some m.cls) (hy1 : y.name = "<init>")
    (w1 : (Cond.methodLink own index y).before a0 Z = true) (w2 : (Cond.instanceMethod y).before a0 Z = true) (wc : (Cond.code y bytes maxL none).before a0 Z = true) (wz : (Cond.initialized y.cls).before a0 Z = true) (hy : y.cls ≠ "java/lang/invoke/MethodHandle" ∧ y.cls ≠ "java/lang/invoke/VarHandle")
    {a : Addr} {g : JFrame} (hg : g.method = m) (hsize : g.locals.size = c.maxLocals) {argsL rest : List Value} (K : own_Con l Z y bytes maxL none rm (.ref a :: argsL).toArray h Q) (eT : T.heap = h) {ps : List FieldType} {r : Option FieldType} (hpd : parseMethodDescriptor y.desc = some ⟨ps, r⟩) (hlen : argsL.length = ps.length) (hstack : g.stack = argsL.reverse ++ .ref a :: rest) (hW : 2 * g.monitorRoom + (rest.map fun v => v.category).sum ≤ W)
    (hdg : decode c.code g.pc = .ok (.invokespecial index, 3)) (hf : rm.frames + 1 ≤ R.frames) (hl : W + (maxL + 11) + rm.locals ≤ R.locals) (hcc : cells + rm.cells ≤ R.cells) (hss : slots + rm.slots ≤ R.slots) :
    ∃ (T' : State) (L : List Loc) (v : Option Value) (h' : Heap), Stand p l e R s m args below meth c T' (locs ++ L) (cells + rm.cells) (slots + rm.slots) ∧ T'.heap = h' ∧ Q v h' L ∧ ∀ t, Steps p.tables e below (T'.setTop { g with pc := g.pc + 3, stack := v.toList ++ rest }) t → Steps p.tables e below (T.setTop g) t := by
  obtain ⟨v, _, ⟨T', L', k', n'⟩, -, X', ⟨L, hQ, l1, l2, l3⟩, st⟩ := X.specialBack hx hy1 hown (mvT hZ w1) (mvT hZ w2) (mvT hZ wc) hy (backOf (K []) hZ wc wz hf hl) hg hsize (Steps.refl _) (a := a) (argsL := argsL) (rest := rest) (lenOf hpd hlen) hstack hW hdg (fun _ _ => ⟨rfl, eT, hcc, hss⟩)
  dsimp only [Pt.U, Pt.locs, Pt.cells, Pt.slots] at X' l1 l2 l3 st hQ
  subst l1 l2 l3
  exact ⟨T', L, v, _, X', rfl, hQ, fun t k => st.trans k⟩
/-- a static method, by its contract -/
theorem own_callS {y : MethodName} {bytes : ByteArray} {maxL : Nat} {ret : Option FieldType} {rm : Room} {Q : Option Value → Heap → List Loc → Prop} {own : String} {index W : Nat} (X : Stand p l e R s m args below meth c T locs cells slots) (hx : p.tables.exec = Jvm.exec) (hZ : Z.Warmed39 s.vm) (hown : s.vm.findClass own = some m.cls)
    (w1 : (Cond.methodLink own index y).before a0 Z = true) (w2 : (Cond.static y).before a0 Z = true) (wc : (Cond.code y bytes maxL ret).before a0 Z = true) (wz : (Cond.initialized y.cls).before a0 Z = true) (hy : y.cls ≠ "java/lang/invoke/MethodHandle" ∧ y.cls ≠ "java/lang/invoke/VarHandle")
    {g : JFrame} (hg : g.method = m) (hsize : g.locals.size = c.maxLocals) {argsL rest : List Value} (K : own_Con l Z y bytes maxL ret rm argsL.toArray h Q) (eT : T.heap = h) {ps : List FieldType} {r : Option FieldType} (hpd : parseMethodDescriptor y.desc = some ⟨ps, r⟩) (hlen : argsL.length = ps.length) (hstack : g.stack = argsL.reverse ++ rest) (hW : 2 * g.monitorRoom + (rest.map fun v => v.category).sum ≤ W)
    (hdg : decode c.code g.pc = .ok (.invokestatic index, 3)) (hf : rm.frames + 1 ≤ R.frames) (hl : W + (maxL + 11) + rm.locals ≤ R.locals) (hcc : cells + rm.cells ≤ R.cells) (hss : slots + rm.slots ≤ R.slots) :
    ∃ (T' : State) (L : List Loc) (v : Option Value) (h' : Heap), Stand p l e R s m args below meth c T' (locs ++ L) (cells + rm.cells) (slots + rm.slots) ∧ T'.heap = h' ∧ Q v h' L ∧ ∀ t, Steps p.tables e below (T'.setTop { g with pc := g.pc + 3, stack := v.toList ++ rest }) t → Steps p.tables e below (T.setTop g) t := by
  obtain ⟨v, _, ⟨T', L', k', n'⟩, -, X', ⟨L, hQ, l1, l2, l3⟩, st⟩ := Jvm.LawKit.callS X hx hown (mvT hZ w1) (mvT hZ w2) (mvT hZ wz) (mvT hZ wc) hy (backOf (K []) hZ wc wz hf hl) hg hsize (argsL := argsL) (rest := rest) (lenOf hpd hlen) hstack hW hdg (fun _ _ => ⟨rfl, eT, hcc, hss⟩)
  dsimp only [Pt.U, Pt.locs, Pt.cells, Pt.slots] at X' l1 l2 l3 st hQ
  subst l1 l2 l3
  exact ⟨T', L, v, _, X', rfl, hQ, fun t k => st _ k⟩
/-- a static method that a class above declares -/
theorem own_callSU {x : MethodName} {owner : String} {bytes : ByteArray} {maxL : Nat} {ret : Option FieldType} {rm : Room} {Q : Option Value → Heap → List Loc → Prop} {own : String} {index W : Nat} (X : Stand p l e R s m args below meth c T locs cells slots) (hx : p.tables.exec = Jvm.exec) (hZ : Z.Warmed39 s.vm) (hown : s.vm.findClass own = some m.cls)
    (w1 : (Cond.methodLink own index x).before a0 Z = true) (ws : (Cond.sameMethod x.cls owner x.name x.desc).before a0 Z = true) (w2 : (Cond.static ⟨owner, x.name, x.desc⟩).before a0 Z = true) (wc : (Cond.code ⟨owner, x.name, x.desc⟩ bytes maxL ret).before a0 Z = true) (wz : (Cond.initialized owner).before a0 Z = true) (hy : owner ≠ "java/lang/invoke/MethodHandle" ∧ owner ≠ "java/lang/invoke/VarHandle")
    {g : JFrame} (hg : g.method = m) (hsize : g.locals.size = c.maxLocals) {argsL rest : List Value} (K : own_Con l Z ⟨owner, x.name, x.desc⟩ bytes maxL ret rm argsL.toArray h Q) (eT : T.heap = h) {ps : List FieldType} {r : Option FieldType} (hpd : parseMethodDescriptor x.desc = some ⟨ps, r⟩) (hlen : argsL.length = ps.length) (hstack : g.stack = argsL.reverse ++ rest) (hW : 2 * g.monitorRoom + (rest.map fun v => v.category).sum ≤ W)
    (hdg : decode c.code g.pc = .ok (.invokestatic index, 3)) (hf : rm.frames + 1 ≤ R.frames) (hl : W + (maxL + 11) + rm.locals ≤ R.locals) (hcc : cells + rm.cells ≤ R.cells) (hss : slots + rm.slots ≤ R.slots) :
    ∃ (T' : State) (L : List Loc) (v : Option Value) (h' : Heap), Stand p l e R s m args below meth c T' (locs ++ L) (cells + rm.cells) (slots + rm.slots) ∧ T'.heap = h' ∧ Q v h' L ∧ ∀ t, Steps p.tables e below (T'.setTop { g with pc := g.pc + 3, stack := v.toList ++ rest }) t → Steps p.tables e below (T.setTop g) t := by
  have wc' : (Cond.code ⟨owner, x.name, x.desc⟩ bytes maxL ret).before args s = true := mvT hZ wc
  obtain ⟨mk, hnamed⟩ := Cond.code_named wc'
  obtain ⟨methM, cM, hmethM, -, -, -, -, -, -, hsig⟩ := Cond.code_spec hnamed wc'
  obtain ⟨v, _, ⟨T', L', k', n'⟩, -, X', ⟨L, hQ, l1, l2, l3⟩, st⟩ := X.staticBackUp hx hown (mvT hZ w1) (mvT hZ ws) (mvT hZ w2) (mvT hZ wz) hnamed hmethM hsig hy (backOf (K []) hZ wc wz hf hl) hg hsize (Steps.refl _) (argsL := argsL) (rest := rest) (lenOf hpd hlen) hstack hW hdg (fun _ _ => ⟨rfl, eT, hcc, hss⟩)
  dsimp only [Pt.U, Pt.locs, Pt.cells, Pt.slots] at X' l1 l2 l3 st hQ
  subst l1 l2 l3
  exact ⟨T', L, v, _, X', rfl, hQ, fun t k => st.trans k⟩
/-- an instance method that the receiver's class selects, by its contract -/
theorem own_callV {y : MethodName} {C : String} {bytes : ByteArray} {maxL : Nat} {ret : Option FieldType} {rm : Room} {Q : Option Value → Heap → List Loc → Prop} {own : String} {index W : Nat} (X : Stand p l e R s m args below meth c T locs cells slots) (hx : p.tables.exec = Jvm.exec) (hZ : Z.Warmed39 s.vm) (hown : s.vm.findClass own = some m.cls)
    (w1 : (Cond.methodLink own index y).before a0 Z = true) (wd : (Cond.declares y).before a0 Z = true) (wsel : (Cond.selects C y y).before a0 Z = true) (w2 : (Cond.instanceMethod y).before a0 Z = true) (wc : (Cond.code y bytes maxL ret).before a0 Z = true) (wz : (Cond.initialized y.cls).before a0 Z = true) (hy : y.cls ≠ "java/lang/invoke/MethodHandle" ∧ y.cls ≠ "java/lang/invoke/VarHandle")
    {a : Addr} (E : Exa Z h a C) {g : JFrame} (hg : g.method = m) (hsize : g.locals.size = c.maxLocals) {argsL rest : List Value} (K : own_Con l Z y bytes maxL ret rm (.ref a :: argsL).toArray h Q) (eT : T.heap = h) {ps : List FieldType} {r : Option FieldType} (hpd : parseMethodDescriptor y.desc = some ⟨ps, r⟩) (hlen : argsL.length = ps.length) (hstack : g.stack = argsL.reverse ++ .ref a :: rest) (hW : 2 * g.monitorRoom + (rest.map fun v => v.category).sum ≤ W)
    (hdg : decode c.code g.pc = .ok (.invokevirtual index, 3)) (hf : rm.frames + 1 ≤ R.frames) (hl : W + (maxL + 11) + rm.locals ≤ R.locals) (hcc : cells + rm.cells ≤ R.cells) (hss : slots + rm.slots ≤ R.slots) :
    ∃ (T' : State) (L : List Loc) (v : Option Value) (h' : Heap), Stand p l e R s m args below meth c T' (locs ++ L) (cells + rm.cells) (slots + rm.slots) ∧ T'.heap = h' ∧ Q v h' L ∧ ∀ t, Steps p.tables e below (T'.setTop { g with pc := g.pc + 3, stack := v.toList ++ rest }) t → Steps p.tables e below (T.setTop g) t := by
  obtain ⟨cB, kB, q1, q2, q3⟩ := isOf hZ eT E
  obtain ⟨v, _, ⟨T', L', k', n'⟩, -, X', ⟨L, hQ, l1, l2, l3⟩, st⟩ := X.virtualBack hx hown (mvT hZ w1) (mvT hZ wd) (notFace_of_selects (args := #[]) (mvT hZ wsel)) (mvT hZ wsel) (mvT hZ w2) hy (backOf (K []) hZ wc wz hf hl) q1 q3 hg hsize (Steps.refl _) (argsL := argsL) (rest := rest) (lenOf hpd hlen) hstack hW hdg (fun _ _ => ⟨rfl, eT, hcc, hss⟩)
  dsimp only [Pt.U, Pt.locs, Pt.cells, Pt.slots] at X' l1 l2 l3 st hQ
  subst l1 l2 l3
  exact ⟨T', L, v, _, X', rfl, hQ, fun t k => st.trans k⟩
/-- .. that a class above the named one declares -/
theorem own_callVU {x : MethodName} {C owner : String} {bytes : ByteArray} {maxL : Nat} {ret : Option FieldType} {rm : Room} {Q : Option Value → Heap → List Loc → Prop} {own : String} {index W : Nat} (X : Stand p l e R s m args below meth c T locs cells slots) (hx : p.tables.exec = Jvm.exec) (hZ : Z.Warmed39 s.vm) (hown : s.vm.findClass own = some m.cls)
    (w1 : (Cond.methodLink own index x).before a0 Z = true) (ws : (Cond.sameMethod x.cls owner x.name x.desc).before a0 Z = true) (wd : (Cond.declares ⟨owner, x.name, x.desc⟩).before a0 Z = true) (hy : owner ≠ "java/lang/invoke/MethodHandle" ∧ owner ≠ "java/lang/invoke/VarHandle") (wsel : (Cond.selects C x ⟨owner, x.name, x.desc⟩).before a0 Z = true) (w2 : (Cond.instanceMethod ⟨owner, x.name, x.desc⟩).before a0 Z = true) (wc : (Cond.code ⟨owner, x.name, x.desc⟩ bytes maxL ret).before a0 Z = true) (wz : (Cond.initialized owner).before a0 Z = true)
    {a : Addr} (E : Exa Z h a C) {g : JFrame} (hg : g.method = m) (hsize : g.locals.size = c.maxLocals) {argsL rest : List Value} (K : own_Con l Z ⟨owner, x.name, x.desc⟩ bytes maxL ret rm (.ref a :: argsL).toArray h Q) (eT : T.heap = h) {ps : List FieldType} {r : Option FieldType} (hpd : parseMethodDescriptor x.desc = some ⟨ps, r⟩) (hlen : argsL.length = ps.length) (hstack : g.stack = argsL.reverse ++ .ref a :: rest) (hW : 2 * g.monitorRoom + (rest.map fun v => v.category).sum ≤ W)
    (hdg : decode c.code g.pc = .ok (.invokevirtual index, 3)) (hf : rm.frames + 1 ≤ R.frames) (hl : W + (maxL + 11) + rm.locals ≤ R.locals) (hcc : cells + rm.cells ≤ R.cells) (hss : slots + rm.slots ≤ R.slots) :
    ∃ (T' : State) (L : List Loc) (v : Option Value) (h' : Heap), Stand p l e R s m args below meth c T' (locs ++ L) (cells + rm.cells) (slots + rm.slots) ∧ T'.heap = h' ∧ Q v h' L ∧ ∀ t, Steps p.tables e below (T'.setTop { g with pc := g.pc + 3, stack := v.toList ++ rest }) t → Steps p.tables e below (T.setTop g) t := by
  obtain ⟨cB, kB, q1, q2, q3⟩ := isOf hZ eT E
  obtain ⟨v, _, ⟨T', L', k', n'⟩, -, X', ⟨L, hQ, l1, l2, l3⟩, st⟩ := X.virtualBackUp hx hown (mvT hZ w1) (mvT hZ ws) (mvT hZ wd) hy (mvT hZ wsel) (mvT hZ w2) (backOf (K []) hZ wc wz hf hl) q1 q3 hg hsize (Steps.refl _) (argsL := argsL) (rest := rest) (lenOf hpd hlen) hstack hW hdg (fun _ _ => ⟨rfl, eT, hcc, hss⟩)
  dsimp only [Pt.U, Pt.locs, Pt.cells, Pt.slots] at X' l1 l2 l3 st hQ
  subst l1 l2 l3
  exact ⟨T', L, v, _, X', rfl, hQ, fun t k => st.trans k⟩
/-- an object of just this class, no box of the VM's own -/
def own_Obj (Z : State) (h : Heap) (a : Addr) (C : String) : Prop := Exa Z h a C ∧ ∃ cell : Cell, h[a]? = some cell ∧ cell.vm ≠ .unknown
theorem own_Obj.new {a : Addr} {C : String} (E : Exa Z h a C) (N : ∃ cell : Cell, h[a]? = some cell ∧ cell.vm = .none ∧ cell.monitor = {}) : own_Obj Z h a C := by
  obtain ⟨cell, h1, h2, -⟩ := N
  exact ⟨E, cell, h1, by rw [h2]; simp⟩
theorem own_Obj.lt {a : Addr} {C : String} (F : own_Obj Z h a C) : a < h.size := F.1.lt
theorem own_Obj.ext {a : Addr} {C : String} (F : own_Obj Z h a C) (E : Ext h h') : own_Obj Z h' a C := by
  obtain ⟨F, cell, h1, h2⟩ := F
  exact ⟨F.ext E, cell, E.2 _ _ h1, h2⟩
theorem own_Obj.keep {a : Addr} {C : String} {ws : List Addr} (F : own_Obj Z h a C) (K : Keep h h' ws) : own_Obj Z h' a C := by
  obtain ⟨F, cell, h1, h2⟩ := F
  obtain ⟨c', q1, -, q3, -⟩ := K.2.2 a cell h1
  exact ⟨F.keep K, c', q1, by rw [q3]; exact h2⟩
theorem own_Obj.wr {a b : Addr} {C : String} {sl : Nat} {v : Value} (F : own_Obj Z h a C) (W : Wr h h' b sl v) : own_Obj Z h' a C := F.keep (Keep.of_wr W)
theorem own_Obj.fld {a : Addr} {C O n d : String} {k : Nat} (F : own_Obj Z h a C) (wi : (Cond.instantiable C k).before a0 Z = true) (L : Laid Z a0 C O n d) : ∃ v, Fld Z h a O n d v := fld_laid F.1 F.2 wi L
/-- arraylength, of an array known -/
theorem own_alen (X : Stand p l e R s m args below meth c T locs cells slots) (hx : p.tables.exec = Jvm.exec) (hZ : Z.Warmed39 s.vm) (eT : T.heap = h) {a : Addr} {k : ClassId} {ty : FieldType} {z : Int32} {vs : List Value} {dv : Value} (A : Arv Z h a k ty z vs dv) {g : JFrame} (hg : g.method = m) {rest : List Value} (hs : g.stack = .ref a :: rest) (hd : decode c.code g.pc = .ok (.arraylength, 1)) :
    ∀ t, Steps p.tables e below (T.setTop { g with pc := g.pc + 1, stack := .int z :: rest }) t → Steps p.tables e below (T.setTop g) t := by
  obtain ⟨cl, A, q1, S, q3, H, G⟩ := A
  intro t k
  refine X.arraylength hx (by rw [eT]; exact A.1) (State.isArrayOf_alike hZ.alike A.2.1) hg hs hd _ ?_
  rw [len_of S q3]
  exact k
/-- getfield through an entry that is said resolved -/
theorem own_getR (X : Stand p l e R s m args below meth c T locs cells slots) (hx : p.tables.exec = Jvm.exec) (hZ : Z.Warmed39 s.vm) {own O n d : String} {index : Nat} (hown : s.vm.findClass own = some m.cls) (w : (Cond.fieldRef own index O n d).before a0 Z = true) (eT : T.heap = h) {a : Addr} {v : Value} (F : Fld Z h a O n d v)
    {g : JFrame} (hg : g.method = m) {rest : List Value} (hs : g.stack = .ref a :: rest) (hd : decode c.code g.pc = .ok (.getfield index, 3)) :
    ∀ t, Steps p.tables e below (T.setTop { g with pc := g.pc + 3, stack := v :: rest }) t → Steps p.tables e below (T.setTop g) t := by
  have w1 : (Cond.fieldRef own index O n d).before a0 (Z.setVm s.vm) = true := Cond.fieldRef_warmed39 hZ w
  have w2 : (Cond.fieldRef own index O n d).before a0 ((Z.setVm s.vm).setVm T.vm) = true := Cond.fieldRef_warmed (s := Z.setVm s.vm) X.warmed w1
  have hU : Z.Warmed39 T.vm := wtrans hZ X.warmed
  have hown' : ((Z.setVm s.vm).setVm T.vm).vm.findClass own = some m.cls := by
    show T.vm.findClass own = _
    rw [X.warmed.alike.findClass]; exact hown
  obtain ⟨cf, k, i, f, hf, hr⟩ := Cond.fieldRef_spec hown' w2
  obtain ⟨cell, cf2, k2, i2, f2, h1, h2, h3, h4, -, -, h7⟩ := F
  obtain ⟨k', hi, -⟩ := State.fieldFound?_setVm (s := Z) hU.alike h2
  have hf' : (Z.setVm T.vm).fieldFound? O n d = some (cf, k, i, f) := hf
  rw [hi] at hf'
  cases hf'
  intro t k
  subst hg
  jvm_step X.here [X.here.top, hx, hd, getfield.wp_ready (e := e) (s := T) (f := g) X.here.top hr h3 hs (by rw [eT]; exact h1) h4 h7]
  exact k
end OwnKit
end Jvm.RoadKit
namespace Jvm.RoadKit
open Sem ClassFile Op Lib Jvm.Stand Jvm.Free Jvm.LawKit
section OwnBack
variable {p : Program} {l : Launch} {e : Env} {R : Room} {s : State} {m : MethodId} {args : Array Value} {below : List Frame} {meth : Method} {c : Code} {T : State} {locs : List Loc} {cells slots : Nat} {Z : State} {a0 : Array Value} {h h' : Heap}
/-- a constructor, by who pays it -/
theorem own_bcallC {y : MethodName} {bytes : ByteArray} {maxL nc ns : Nat} {Q : Option Value → Heap → List Loc → Prop} {own : String} {index W : Nat} (X : Stand p l e R s m args below meth c T locs cells slots) (hx : p.tables.exec = Jvm.exec) (hZ : Z.Warmed39 s.vm) (hown : s.vm.findClass own = some m.cls) (hy1 : y.name = "<init>")
    (w1 : (Cond.methodLink own index y).before a0 Z = true) (w2 : (Cond.instanceMethod y).before a0 Z = true) (wc : (Cond.code y bytes maxL none).before a0 Z = true) (hy : y.cls ≠ "java/lang/invoke/MethodHandle" ∧ y.cls ≠ "java/lang/invoke/VarHandle")
    {a : Addr} {g : JFrame} (hg : g.method = m) (hsize : g.locals.size = c.maxLocals) {argsL rest : List Value}
    (K : Back l R p e below s args y 3 W (fun A b => b = (.ref a :: argsL).toArray ∧ A.U.heap = h ∧ A.cells + nc ≤ R.cells ∧ A.slots + ns ≤ R.slots) (fun A _ v B => ∃ L, Q v B.U.heap L ∧ B.locs = A.locs ++ L ∧ B.cells = A.cells + nc ∧ B.slots = A.slots + ns))
    (eT : T.heap = h) {ps : List FieldType} {r : Option FieldType} (hpd : parseMethodDescriptor y.desc = some ⟨ps, r⟩) (hlen : argsL.length = ps.length) (hstack : g.stack = argsL.reverse ++ .ref a :: rest) (hW : 2 * g.monitorRoom + (rest.map fun v => v.category).sum ≤ W)
    (hdg : decode c.code g.pc = .ok (.invokespecial index, 3)) (hcc : cells + nc ≤ R.cells) (hss : slots + ns ≤ R.slots) :
    ∃ (T' : State) (L : List Loc) (v : Option Value) (h' : Heap), Stand p l e R s m args below meth c T' (locs ++ L) (cells + nc) (slots + ns) ∧ T'.heap = h' ∧ Q v h' L ∧ ∀ t, Steps p.tables e below (T'.setTop { g with pc := g.pc + 3, stack := v.toList ++ rest }) t → Steps p.tables e below (T.setTop g) t := by
  obtain ⟨v, _, ⟨T', L', k', n'⟩, -, X', ⟨L, hQ, l1, l2, l3⟩, st⟩ := X.specialBack hx hy1 hown (mvT hZ w1) (mvT hZ w2) (mvT hZ wc) hy K hg hsize (Steps.refl _) (a := a) (argsL := argsL) (rest := rest) (lenOf hpd hlen) hstack hW hdg (fun _ _ => ⟨rfl, eT, hcc, hss⟩)
  dsimp only [Pt.U, Pt.locs, Pt.cells, Pt.slots] at X' l1 l2 l3 st hQ
  subst l1 l2 l3
  exact ⟨T', L, v, _, X', rfl, hQ, fun t k => st.trans k⟩
/-- an instance method that the receiver's class selects, by who pays it -/
theorem own_bcallV {y : MethodName} {C : String} {nc ns : Nat} {Q : Option Value → Heap → List Loc → Prop} {own : String} {index W : Nat} (X : Stand p l e R s m args below meth c T locs cells slots) (hx : p.tables.exec = Jvm.exec) (hZ : Z.Warmed39 s.vm) (hown : s.vm.findClass own = some m.cls)
    (w1 : (Cond.methodLink own index y).before a0 Z = true) (wd : (Cond.declares y).before a0 Z = true) (wsel : (Cond.selects C y y).before a0 Z = true) (w2 : (Cond.instanceMethod y).before a0 Z = true) (hy : y.cls ≠ "java/lang/invoke/MethodHandle" ∧ y.cls ≠ "java/lang/invoke/VarHandle")
    {a : Addr} (E : Exa Z h a C) {g : JFrame} (hg : g.method = m) (hsize : g.locals.size = c.maxLocals) {argsL rest : List Value}
    (K : Back l R p e below s args y 3 W (fun A b => b = (.ref a :: argsL).toArray ∧ A.U.heap = h ∧ A.cells + nc ≤ R.cells ∧ A.slots + ns ≤ R.slots) (fun A _ v B => ∃ L, Q v B.U.heap L ∧ B.locs = A.locs ++ L ∧ B.cells = A.cells + nc ∧ B.slots = A.slots + ns))
    (eT : T.heap = h) {ps : List FieldType} {r : Option FieldType} (hpd : parseMethodDescriptor y.desc = some ⟨ps, r⟩) (hlen : argsL.length = ps.length) (hstack : g.stack = argsL.reverse ++ .ref a :: rest) (hW : 2 * g.monitorRoom + (rest.map fun v => v.category).sum ≤ W)
    (hdg : decode c.code g.pc = .ok (.invokevirtual index, 3)) (hcc : cells + nc ≤ R.cells) (hss : slots + ns ≤ R.slots) :
    ∃ (T' : State) (L : List Loc) (v : Option Value) (h' : Heap), Stand p l e R s m args below meth c T' (locs ++ L) (cells + nc) (slots + ns) ∧ T'.heap = h' ∧ Q v h' L ∧ ∀ t, Steps p.tables e below (T'.setTop { g with pc := g.pc + 3, stack := v.toList ++ rest }) t → Steps p.tables e below (T.setTop g) t := by
  obtain ⟨cB, kB, q1, q2, q3⟩ := isOf hZ eT E
  obtain ⟨v, _, ⟨T', L', k', n'⟩, -, X', ⟨L, hQ, l1, l2, l3⟩, st⟩ := X.virtualBack hx hown (mvT hZ w1) (mvT hZ wd) (notFace_of_selects (args := #[]) (mvT hZ wsel)) (mvT hZ wsel) (mvT hZ w2) hy K q1 q3 hg hsize (Steps.refl _) (argsL := argsL) (rest := rest) (lenOf hpd hlen) hstack hW hdg (fun _ _ => ⟨rfl, eT, hcc, hss⟩)
  dsimp only [Pt.U, Pt.locs, Pt.cells, Pt.slots] at X' l1 l2 l3 st hQ
  subst l1 l2 l3
  exact ⟨T', L, v, _, X', rfl, hQ, fun t k => st.trans k⟩
theorem own_nref {u : Value} {C : String} (r : u.isRef = true) : narrow (.object C) u = u := by cases u <;> simp [Value.isRef] at r <;> rfl
theorem own_fref {u : Value} {C : String} (r : u.isRef = true) : fits (.object C) u = true := by cases u <;> simp [Value.isRef] at r <;> rfl
/-- caload, of an array known -/
theorem own_caload (X : Stand p l e R s m args below meth c T locs cells slots) (hx : p.tables.exec = Jvm.exec) (hZ : Z.Warmed39 s.vm) (eT : T.heap = h) {a : Addr} {k : ClassId} {z j v : Int32} {vs : List Value} {dv : Value} (A : Arv Z h a k .char z vs dv) (hj : ¬ j < 0 ∧ j < z) (hv : vs.getD j.toNatClampNeg dv = .int v) {g : JFrame} (hg : g.method = m) {rest : List Value} (hs : g.stack = .int j :: .ref a :: rest) (hd : decode c.code g.pc = .ok (.caload, 1)) :
    ∀ t, Steps p.tables e below (T.setTop { g with pc := g.pc + 1, stack := .int v :: rest }) t → Steps p.tables e below (T.setTop g) t := by
  obtain ⟨cl, A, q1, S, q3, H, G⟩ := A
  intro t k
  exact X.caload hx (j := j) (v := .int v) (by rw [eT]; exact A.1) (State.isArrayOf_alike hZ.alike A.2.1) A.2.2 (inb_of S hj) (H.at (inb_of S hj) hv) hg hs hd _ k
/-- aaload, of an array known -/
theorem own_aaload (X : Stand p l e R s m args below meth c T locs cells slots) (hx : p.tables.exec = Jvm.exec) (hZ : Z.Warmed39 s.vm) (eT : T.heap = h) {a : Addr} {k : ClassId} {ty : FieldType} {z j : Int32} {v : Value} {vs : List Value} {dv : Value} (A : Arv Z h a k ty z vs dv) (hty : ty.isReference = true) (hj : ¬ j < 0 ∧ j < z) (hv : vs.getD j.toNatClampNeg dv = v) {g : JFrame} (hg : g.method = m) {rest : List Value} (hs : g.stack = .int j :: .ref a :: rest) (hd : decode c.code g.pc = .ok (.aaload, 1)) :
    ∀ t, Steps p.tables e below (T.setTop { g with pc := g.pc + 1, stack := v :: rest }) t → Steps p.tables e below (T.setTop g) t := by
  obtain ⟨cl, A, q1, S, q3, H, G⟩ := A
  intro t k
  exact X.aaload hx (j := j) (v := v) (by rw [eT]; exact A.1) (State.isArrayOf_alike hZ.alike A.2.1) hty A.2.2 (inb_of S hj) (H.at (inb_of S hj) hv) hg hs hd _ k
end OwnBack
end Jvm.RoadKit
namespace Jvm.RoadKit
open Sem ClassFile Op Lib Bundle Jvm.Stand Jvm.Free Jvm.LawKit Jvm.Free.SB Jvm.Free.SBG
section OwnWide
variable {p : Program} {l : Launch} {e : Env} {R : Room} {s : State} {m : MethodId} {args : Array Value} {below : List Frame} {meth : Method} {c : Code} {T : State} {locs : List Loc} {cells slots : Nat} {Z : State} {a0 : Array Value} {h h' : Heap} {vm0 : Vm}
abbrev own_PostW (s : State) (rm : Room) (Q : Option Value → Heap → List Loc → Prop) : Outcome → State → Prop := fun o U' => ∃ v L, o = .returned v ∧ Q v U'.heap L ∧ ReturnedEndW s o U' L rm.cells rm.slots
/-- a body's contract where String constants may be loaded: J is what is known of the tables at its start -/
def own_ConW (l : Launch) (Z : State) (J : Vm → Prop) (y : MethodName) (bytes : ByteArray) (maxL : Nat) (ret : Option FieldType) (rm : Room) (as' : Array Value) (h : Heap) (Q : Option Value → Heap → List Loc → Prop) : Prop :=
  ∀ ws : List Cond, MetFree l y (head1 (Cond.code y bytes maxL ret :: ws) rm) (fun a U => a = as' ∧ Z.Warmed39 U.vm ∧ U.heap = h ∧ J U.vm) (fun _ _ _ _ _ => True) (fun _ U o U' => ∃ v L, o = .returned v ∧ Q v U'.heap L ∧ ReturnedEndW U o U' L rm.cells rm.slots)
theorem own_conW {J : Vm → Prop} {y : MethodName} {bytes : ByteArray} {maxL : Nat} {ret : Option FieldType} {rm : Room} {as' : Array Value} {Q : Option Value → Heap → List Loc → Prop} {ls : Array Slot} (hpl : plainName y.cls = true) (ef : ∀ m, entryFrame m as' maxL = mkF m 0 ls [])
    (body : ∀ (p : Program) (e : Env) (s : State) (m : MethodId) (below : List Frame) (meth : Method) (c : Code) (s₁ : State), p.tables.exec = Jvm.exec → c.code = bytes → c.maxLocals = maxL → s.vm.findClass y.cls = some m.cls → meth.name = y.name → meth.sig.returnType = ret → meth.locks = false → Z.Warmed39 s.vm →
      Stand p l e rm (s.setVm s.vm) m as' below meth c s₁ [] 0 0 → s₁.heap = h → s.Since s.vm 0 → J s.vm → own_Fin p e below (own_PostW s rm Q) s₁ (mkF m 0 ls [])) : own_ConW l Z J y bytes maxL ret rm as' h Q := by
  intro ws
  refine MetFree.of_bodySF (plainFor_of_name hpl) hisR ?_
  intro p e s m args below meth c s₁ Bd hml0 hP hK
  obtain ⟨rfl, hZ, hh, hJ⟩ := hP
  have k := body p e s m below meth c s₁ Bd.exec Bd.bytes hml0 (findClass_of_methodNamed Bd.named) (name_of_methodNamed Bd.named Bd.method).1 Bd.returns Bd.notSynchronized hZ (Stand.of_body Bd) (by rw [← hh, Bd.state]; rfl) ((State.WarmedH.refl s).since 0) hJ
  rw [← ef m] at k
  exact k
/-- a contract that loads no constant is one that may -/
theorem own_Con.wide {y : MethodName} {bytes : ByteArray} {maxL : Nat} {ret : Option FieldType} {rm : Room} {as' : Array Value} {Q : Option Value → Heap → List Loc → Prop} {J : Vm → Prop} (K : own_Con l Z y bytes maxL ret rm as' h Q) : own_ConW l Z J y bytes maxL ret rm as' h Q := fun ws =>
  MetFree.mono (K ws) (fun _ _ q => ⟨q.1, q.2.1, q.2.2.1⟩) (fun _ _ _ _ _ q => q) (fun _ _ _ _ _ ⟨v, L, h1, h2, h3, h4, h5⟩ => ⟨v, L, h1, h2, ReturnedEndW.of_narrow h3 h4 h5⟩)
theorem own_retW {rm : Room} {Q : Option Value → Heap → List Loc → Prop} (X : Stand p l e R (s.setVm vm0) m args below meth c T locs cells slots) {k0 : Nat} (hS : s.Since vm0 k0) (hk : k0 ≤ h.size) (hlk : meth.locks = false) {v : Option Value} (hv : meth.sig.returnType = none → v = none) {g : JFrame}
    (st : ∀ fs, (∀ (f : JFrame) (acts : List Action), f.method = m → f.locked = none → f.entered = [] → (doReturn e (T.setTop f) acts v).1 = T.setFrames fs) → Steps p.tables e below (T.setTop g) (T.setFrames fs))
    (eT : T.heap = h) (hQ : Q v h locs) (hc : cells ≤ rm.cells) (hs : slots ≤ rm.slots) : own_Fin p e below (own_PostW s rm Q) T g := by
  obtain ⟨fs, hr, hrun, hended, q1, q2, q3, q4⟩ := X.leaveW hS (by rw [eT]; exact hk) hv hlk
  refine ⟨_, _, st fs hr, hrun, hended, v, locs, rfl, ?_, q1, q2, q3, q4.mono hc hs⟩
  show Q v T.heap locs
  rw [eT]; exact hQ
theorem own_retVW {rm : Room} {Q : Option Value → Heap → List Loc → Prop} (X : Stand p l e R (s.setVm vm0) m args below meth c T locs cells slots) (hx : p.tables.exec = Jvm.exec) {k0 : Nat} (hS : s.Since vm0 k0) (hk : k0 ≤ h.size) (hlk : meth.locks = false) (hret : meth.sig.returnType = none) {pc : Nat} {Ls : Array Slot} (hd : decode c.code pc = .ok (.return_, 1))
    (eT : T.heap = h) (hQ : Q none h locs) (hc : cells ≤ rm.cells) (hs : slots ≤ rm.slots) : own_Fin p e below (own_PostW s rm Q) T (mkF m pc Ls []) :=
  own_retW X hS hk hlk (fun _ => rfl) (fun fs hr => X.returnOut hx hret hd hr) eT hQ hc hs
theorem own_retNW {rm : Room} {Q : Option Value → Heap → List Loc → Prop} (X : Stand p l e R (s.setVm vm0) m args below meth c T locs cells slots) (hx : p.tables.exec = Jvm.exec) {k0 : Nat} (hS : s.Since vm0 k0) (hk : k0 ≤ h.size) (hlk : meth.locks = false) {t : FieldType} (hret : meth.sig.returnType = some t) (ht : t = .boolean ∨ t = .byte ∨ t = .char ∨ t = .short) {pc : Nat} {Ls : Array Slot} {z : Int32} {rest : List Value} (hd : decode c.code pc = .ok (.ireturn, 1))
    (eT : T.heap = h) (hQ : Q (some (.int (nar t z))) h locs) (hc : cells ≤ rm.cells) (hs : slots ≤ rm.slots) : own_Fin p e below (own_PostW s rm Q) T (mkF m pc Ls (.int z :: rest)) :=
  own_retW X hS hk hlk (fun q => by rw [hret] at q; cases q) (fun fs hr => retN X hx hret ht hd hr) eT hQ hc hs
theorem own_retIW {rm : Room} {Q : Option Value → Heap → List Loc → Prop} (X : Stand p l e R (s.setVm vm0) m args below meth c T locs cells slots) (hx : p.tables.exec = Jvm.exec) {k0 : Nat} (hS : s.Since vm0 k0) (hk : k0 ≤ h.size) (hlk : meth.locks = false) (hret : meth.sig.returnType = some .int) {pc : Nat} {Ls : Array Slot} {z : Int32} {rest : List Value} (hd : decode c.code pc = .ok (.ireturn, 1))
    (eT : T.heap = h) (hQ : Q (some (.int z)) h locs) (hc : cells ≤ rm.cells) (hs : slots ≤ rm.slots) : own_Fin p e below (own_PostW s rm Q) T (mkF m pc Ls (.int z :: rest)) :=
  own_retW X hS hk hlk (fun q => by rw [hret] at q; cases q) (fun fs hr => retOut X hx hret rfl (Or.inl ⟨rfl, Or.inl rfl, z, rfl⟩) hd hr) eT hQ hc hs
theorem own_retAW {rm : Room} {Q : Option Value → Heap → List Loc → Prop} (X : Stand p l e R (s.setVm vm0) m args below meth c T locs cells slots) (hx : p.tables.exec = Jvm.exec) {k0 : Nat} (hS : s.Since vm0 k0) (hk : k0 ≤ h.size) (hlk : meth.locks = false) {t : FieldType} (hret : meth.sig.returnType = some t) {w : Value} (hn : narrow t w = w) (ht : t.isReference = true) (hw : w.isRef = true) {pc : Nat} {Ls : Array Slot} {rest : List Value} (hd : decode c.code pc = .ok (.areturn, 1))
    (eT : T.heap = h) (hQ : Q (some w) h locs) (hc : cells ≤ rm.cells) (hs : slots ≤ rm.slots) : own_Fin p e below (own_PostW s rm Q) T (mkF m pc Ls (w :: rest)) :=
  own_retW X hS hk hlk (fun q => by rw [hret] at q; cases q) (fun fs hr => retOut X hx hret hn (Or.inr (Or.inr (Or.inr (Or.inr ⟨rfl, ht, hw⟩)))) hd hr) eT hQ hc hs
/-- who pays a call of such a callee -/
theorem own_backW {J : Vm → Prop} {y : MethodName} {bytes : ByteArray} {maxL : Nat} {ret : Option FieldType} {rm : Room} {len W : Nat} {as' : Array Value} {Q : Option Value → Heap → List Loc → Prop} (K : own_ConW l Z J y bytes maxL ret rm as' h Q)
    (hZ : Z.Warmed39 s.vm) (wc : (Cond.code y bytes maxL ret).before a0 Z = true) (wz : (Cond.initialized y.cls).before a0 Z = true) (hf : rm.frames + 1 ≤ R.frames) (hl : W + (maxL + 11) + rm.locals ≤ R.locals)
    (hJ : ∀ (m : MethodId) (meth : Method) (c : Code) (A : Pt), Stand p l e R s m args below meth c A.U A.locs A.cells A.slots → J A.U.vm) :
    BackS l R p e below s args y len W (fun A a => a = as' ∧ A.U.heap = h ∧ A.cells + rm.cells ≤ R.cells ∧ A.slots + rm.slots ≤ R.slots)
      (fun A _ v B => ∃ L, Q v B.U.heap L ∧ B.locs = A.locs ++ L ∧ B.cells = A.cells + rm.cells ∧ B.slots = A.slots + rm.slots) :=
  BackS.of_freeW (bytes := bytes) (maxL := maxL) (ret := ret) (E := fun _ _ o t L k n => k = rm.cells ∧ n = rm.slots ∧ ∃ v, o = .returned v ∧ Q v t.heap L) (K []) hf hl
    (fun m meth c A a Y hp => have hU : Z.Warmed39 A.U.vm := wtrans hZ Y.warmed
      ⟨by show (Cond.and _ .tt).before a A.U = true; rw [Cond.before_and, mv hU wc]; rfl, mv hU wc, mv hU wz, hp.2.2.1, hp.2.2.2⟩)
    (fun m meth c A a g mk Y hp => ⟨hp.1, wtrans hZ Y.warmed, hp.2.1, hJ m meth c A Y⟩) (fun _ _ _ _ _ _ _ _ _ => trivial)
    (fun _ _ _ _ ⟨v, L, h1, h2, h3⟩ => ⟨L, _, _, h3, rfl, rfl, v, h1, h2⟩)
    (fun m meth c A a g mk v t L k n Y hp _ _ ⟨e1, e2, v', e3, e4⟩ => by cases e3; subst e1 e2; exact ⟨L, e4, rfl, rfl, rfl⟩)
/-- a constructor that may load constants -/
theorem own_callCW {J : Vm → Prop} {y : MethodName} {bytes : ByteArray} {maxL : Nat} {rm : Room} {Q : Option Value → Heap → List Loc → Prop} {own : String} {index W : Nat} (X : Stand p l e R (s.setVm vm0) m args below meth c T locs cells slots) (hx : p.tables.exec = Jvm.exec) (hZ : Z.Warmed39 vm0) (hown : vm0.findClass own = some m.cls) {k0 : Nat} (hS : s.Since vm0 k0) (hk : k0 ≤ h.size) (hy1 : y.name = "<init>")
    (w1 : (Cond.methodLink own index y).before a0 Z = true) (w2 : (Cond.instanceMethod y).before a0 Z = true) (wc : (Cond.code y bytes maxL none).before a0 Z = true) (wz : (Cond.initialized y.cls).before a0 Z = true) (hy : y.cls ≠ "java/lang/invoke/MethodHandle" ∧ y.cls ≠ "java/lang/invoke/VarHandle")
    {a : Addr} {g : JFrame} (hg : g.method = m) (hsize : g.locals.size = c.maxLocals) {argsL rest : List Value} (K : own_ConW l Z J y bytes maxL none rm (.ref a :: argsL).toArray h Q) (hJ : ∀ (m : MethodId) (meth : Method) (c : Code) (A : Pt), Stand p l e R (s.setVm vm0) m args below meth c A.U A.locs A.cells A.slots → J A.U.vm) (eT : T.heap = h) {ps : List FieldType} {r : Option FieldType} (hpd : parseMethodDescriptor y.desc = some ⟨ps, r⟩) (hlen : argsL.length = ps.length) (hstack : g.stack = argsL.reverse ++ .ref a :: rest) (hW : 2 * g.monitorRoom + (rest.map fun v => v.category).sum ≤ W)
    (hdg : decode c.code g.pc = .ok (.invokespecial index, 3)) (hf : rm.frames + 1 ≤ R.frames) (hl : W + (maxL + 11) + rm.locals ≤ R.locals) (hcc : cells + rm.cells ≤ R.cells) (hss : slots + rm.slots ≤ R.slots) :
    ∃ (T' : State) (L : List Loc) (v : Option Value) (h' : Heap), Stand p l e R (s.setVm T'.vm) m args below meth c T' (locs ++ L) (cells + rm.cells) (slots + rm.slots) ∧ T'.heap = h' ∧ s.Since T'.vm h'.size ∧ Z.Warmed39 T'.vm ∧ T'.vm.findClass own = some m.cls ∧ Q v h' L ∧ ∀ t, Steps p.tables e below (T'.setTop { g with pc := g.pc + 3, stack := v.toList ++ rest }) t → Steps p.tables e below (T.setTop g) t := by
  obtain ⟨v, _, ⟨T', L', k', n'⟩, -, X', S', G', ⟨L, hQ, l1, l2, l3⟩, st⟩ := X.specialBackS hx hy1 hown (mvT (s := s.setVm vm0) hZ w1) (mvT (s := s.setVm vm0) hZ w2) (mvT (s := s.setVm vm0) hZ wc) hy (own_backW (s := s.setVm vm0) K hZ wc wz hf hl hJ) hg hsize (Steps.refl _) (a := a) (argsL := argsL) (rest := rest) (lenOf hpd hlen) hstack hW hdg (fun _ _ => ⟨rfl, eT, hcc, hss⟩)
  dsimp only [Pt.U, Pt.locs, Pt.cells, Pt.slots] at X' l1 l2 l3 st hQ S' G'
  subst l1 l2 l3
  obtain ⟨r1, r2, r3, r4⟩ := rebS hS (by rw [← eT] at hk; exact hk) X' S' G' hZ hown
  exact ⟨T', L, v, _, r1, rfl, r2, r3, r4, hQ, fun t k => st.trans k⟩
/-- a static method that may -/
theorem own_callSW {J : Vm → Prop} {y : MethodName} {bytes : ByteArray} {maxL : Nat} {ret : Option FieldType} {rm : Room} {Q : Option Value → Heap → List Loc → Prop} {own : String} {index W : Nat} (X : Stand p l e R (s.setVm vm0) m args below meth c T locs cells slots) (hx : p.tables.exec = Jvm.exec) (hZ : Z.Warmed39 vm0) (hown : vm0.findClass own = some m.cls) {k0 : Nat} (hS : s.Since vm0 k0) (hk : k0 ≤ h.size)
    (w1 : (Cond.methodLink own index y).before a0 Z = true) (w2 : (Cond.static y).before a0 Z = true) (wc : (Cond.code y bytes maxL ret).before a0 Z = true) (wz : (Cond.initialized y.cls).before a0 Z = true) (hy : y.cls ≠ "java/lang/invoke/MethodHandle" ∧ y.cls ≠ "java/lang/invoke/VarHandle")
    {g : JFrame} (hg : g.method = m) (hsize : g.locals.size = c.maxLocals) {argsL rest : List Value} (K : own_ConW l Z J y bytes maxL ret rm argsL.toArray h Q) (hJ : ∀ (m : MethodId) (meth : Method) (c : Code) (A : Pt), Stand p l e R (s.setVm vm0) m args below meth c A.U A.locs A.cells A.slots → J A.U.vm) (eT : T.heap = h) {ps : List FieldType} {r : Option FieldType} (hpd : parseMethodDescriptor y.desc = some ⟨ps, r⟩) (hlen : argsL.length = ps.length) (hstack : g.stack = argsL.reverse ++ rest) (hW : 2 * g.monitorRoom + (rest.map fun v => v.category).sum ≤ W)
    (hdg : decode c.code g.pc = .ok (.invokestatic index, 3)) (hf : rm.frames + 1 ≤ R.frames) (hl : W + (maxL + 11) + rm.locals ≤ R.locals) (hcc : cells + rm.cells ≤ R.cells) (hss : slots + rm.slots ≤ R.slots) :
    ∃ (T' : State) (L : List Loc) (v : Option Value) (h' : Heap), Stand p l e R (s.setVm T'.vm) m args below meth c T' (locs ++ L) (cells + rm.cells) (slots + rm.slots) ∧ T'.heap = h' ∧ s.Since T'.vm h'.size ∧ Z.Warmed39 T'.vm ∧ T'.vm.findClass own = some m.cls ∧ Q v h' L ∧ ∀ t, Steps p.tables e below (T'.setTop { g with pc := g.pc + 3, stack := v.toList ++ rest }) t → Steps p.tables e below (T.setTop g) t := by
  obtain ⟨v, _, ⟨T', L', k', n'⟩, -, X', S', G', ⟨L, hQ, l1, l2, l3⟩, st⟩ := callSS X hx hown (mvT (s := s.setVm vm0) hZ w1) (mvT (s := s.setVm vm0) hZ w2) (mvT (s := s.setVm vm0) hZ wz) (mvT (s := s.setVm vm0) hZ wc) hy (own_backW (s := s.setVm vm0) K hZ wc wz hf hl hJ) hg hsize (argsL := argsL) (rest := rest) (lenOf hpd hlen) hstack hW hdg (fun _ _ => ⟨rfl, eT, hcc, hss⟩)
  dsimp only [Pt.U, Pt.locs, Pt.cells, Pt.slots] at X' l1 l2 l3 st hQ S' G'
  subst l1 l2 l3
  obtain ⟨r1, r2, r3, r4⟩ := rebS hS (by rw [← eT] at hk; exact hk) X' S' G' hZ hown
  exact ⟨T', L, v, _, r1, rfl, r2, r3, r4, hQ, fun t k => st.trans k⟩
end OwnWide
end Jvm.RoadKit
/- laws to paste: Road.backV, Road.eqW, Road.codOf (cut by pick.py; bodies as the Statement names them) -/
namespace Jvm.Pilot.@@N@@
namespace StrChars
open Jvm Sem ClassFile Op Lib Jvm.Stand Jvm.Free.XT Jvm.Free.ALB Jvm.Free.JM Jvm.Free
open Jvm.Lib.Cold (StaticIs)
/-- a char array whose places are chars -/
def Ch (a : Addr) (A : Cell) (U : State) : Prop := Arr .char a A U ∧ Typed .char A
theorem Ch.mv {a : Addr} {A : Cell} {U U' : State} (h : Ch a A U) (hal : U.vm.Alike U'.vm) (hh : U'.heap = U.heap) : Ch a A U' := ⟨h.1.mv hal hh, h.2⟩
theorem Ch.keep {a : Addr} {A : Cell} {U U' : State} (h : Ch a A U) (hal : U.vm.Alike U'.vm) (hk : U'.heap[a]? = some A) : Ch a A U' := ⟨h.1.keep hal hk, h.2⟩
/-- what place i of a char[]'s cell holds -/
def cv (A : Cell) (i : Nat) : Int32 := match A.slots[i]? with | some (.int x) => x | _ => 0
theorem Ch.get {a : Addr} {A : Cell} {U : State} (h : Ch a A U) {i : Nat} (hi : i < A.slots.size) : A.slots[i]? = some (.int (cv A i)) := by
  have e := Array.getElem?_eq_getElem hi
  have f := h.2 i _ e
  unfold cv; rw [e]
  generalize A.slots[i] = v at f
  cases v <;> simp [fits] at f ⊢
/-- the byte that i2b leaves of a char -/
def lo8 (x : Int32) : Int32 := x.toInt8.toInt32
theorem fits_lo8 (y : Int32) : fits .byte (.int (lo8 y)) = true := by
  have h1 := y.toInt8.le_toInt
  have h2 := y.toInt8.toInt_lt
  simp only [lo8, fits, Bool.and_eq_true, decide_eq_true_eq, Int32.le_iff_toInt_le, Int8.toInt_toInt32, show (-128 : Int32).toInt = -128 from by decide, show (127 : Int32).toInt = 127 from by decide]
  omega
/-- A' is A but that each place j of lo .. hi - 1 holds f j -/
def Laid (A A' : Cell) (lo hi : Nat) (f : Nat → Value) : Prop := A'.cls = A.cls ∧ A'.vm = A.vm ∧ A'.slots.size = A.slots.size ∧ ∀ i, A'.slots[i]? = if lo ≤ i ∧ i < hi then some (f i) else A.slots[i]?
theorem Laid.zero (A : Cell) (lo : Nat) (f : Nat → Value) : Laid A A lo (lo + 0) f := ⟨rfl, rfl, rfl, fun i => by rw [if_neg (by omega)]⟩
theorem Laid.step {A Ak : Cell} {lo k : Nat} {f : Nat → Value} {v : Value} (h : Laid A Ak lo k f) (hlo : lo ≤ k) (hk : k < Ak.slots.size) (hv : v = f k) : Laid A (Ak.setSlot k v) lo (k + 1) f := by
  refine ⟨h.1, h.2.1, by simpa [Cell.setSlot] using h.2.2.1, fun i => ?_⟩
  by_cases e : k = i
  · subst e; rw [Cell.slots_setSlot_self v hk, if_pos (by omega), hv]
  · rw [Cell.slots_setSlot_ne v e, h.2.2.2 i]
    by_cases q : lo ≤ i ∧ i < k
    · rw [if_pos q, if_pos (by omega)]
    · rw [if_neg q, if_neg (by omega)]
def U16 : String := "java/lang/StringUTF16"
namespace Cmp5
def yN : MethodName := ⟨"java/lang/StringUTF16", "compress", "([CI[BII)I"⟩
abbrev yB : ByteArray := jdk_52_method_21_code
theorem d0 : decode yB 0 = .ok (.iconst 0, 1) := by decide +kernel
theorem d1 : decode yB 1 = .ok (.istore 5, 2) := by decide +kernel
theorem d3 : decode yB 3 = .ok (.iload 5, 2) := by decide +kernel
theorem d5 : decode yB 5 = .ok (.iload 4, 2) := by decide +kernel
theorem d7 : decode yB 7 = .ok (.if_icmp (.ge) 37, 3) := by decide +kernel
theorem d10 : decode yB 10 = .ok (.aload_n 0, 1) := by decide +kernel
theorem d11 : decode yB 11 = .ok (.iload_n 1, 1) := by decide +kernel
theorem d12 : decode yB 12 = .ok (.caload, 1) := by decide +kernel
theorem d13 : decode yB 13 = .ok (.istore 6, 2) := by decide +kernel
theorem d15 : decode yB 15 = .ok (.iload 6, 2) := by decide +kernel
theorem d17 : decode yB 17 = .ok (.sipush 255, 3) := by decide +kernel
theorem d20 : decode yB 20 = .ok (.if_icmp (.le) 6, 3) := by decide +kernel
theorem d26 : decode yB 26 = .ok (.aload_n 2, 1) := by decide +kernel
theorem d27 : decode yB 27 = .ok (.iload_n 3, 1) := by decide +kernel
theorem d28 : decode yB 28 = .ok (.iload 6, 2) := by decide +kernel
theorem d30 : decode yB 30 = .ok (.i2b, 1) := by decide +kernel
theorem d31 : decode yB 31 = .ok (.bastore, 1) := by decide +kernel
theorem d32 : decode yB 32 = .ok (.iinc 1 1, 3) := by decide +kernel
theorem d35 : decode yB 35 = .ok (.iinc 3 1, 3) := by decide +kernel
theorem d38 : decode yB 38 = .ok (.iinc 5 1, 3) := by decide +kernel
theorem d41 : decode yB 41 = .ok (.goto (-38), 3) := by decide +kernel
theorem d44 : decode yB 44 = .ok (.iload 4, 2) := by decide +kernel
theorem d46 : decode yB 46 = .ok (.ireturn, 1) := by decide +kernel
def site : List Cond := []
def tab : Cond := tabOf yN yB 7 (some .int) site
def P (b : Addr) (A : Cell) (d : Addr) (B : Cell) (o q len : Nat) (args : Array Value) (s : State) : Prop := args = #[.ref b, .int (Int32.ofNat o), .ref d, .int (Int32.ofNat q), .int (Int32.ofNat len)] ∧ Ch b A s ∧ Arr .byte d B s ∧ b ≠ d ∧ o + len ≤ A.slots.size ∧ q + len ≤ B.slots.size ∧ ∀ i, i < len → ¬ 255 < cv A (o + i)
def E (b : Addr) (A : Cell) (d : Addr) (B : Cell) (o q len : Nat) (r : Option Value) (s u : State) : Prop := r = some (.int (Int32.ofNat len)) ∧ ∃ B', Put d B' s u ∧ Laid B B' q (q + len) (fun j => Value.int (lo8 (cv A (o + (j - q)))))
/-- no char of the range above 255: len; the places written hold each char's low byte -/
theorem law (l : Launch) (b : Addr) (A : Cell) (d : Addr) (B : Cell) (o q len : Nat) : Law l yN 5 5 0 0 yB 7 (some .int) site (P b A d B o q len) (E b A d B o q len) (copyLocs d q len) 0 0 := by
  refine Law.of_walk (plainFor_of_name (by decide +kernel)) (by decide +kernel) (by decide +kernel) (by decide) (fun _ _ h => by rw [h.1]; rfl) (fun _ U U' hal hh h => ⟨h.1, h.2.1.mv hal hh, h.2.2.1.mv hal hh, h.2.2.2⟩) (fun r U U' V V' h1 hal h2 h => ⟨h.1, h.2.elim fun B' q => ⟨B', q.1.mv h1 h2, q.2⟩⟩) ?_
  intro p e s m args below meth c s₁ X0 hexec hbytes hml hret hlk hnm hown hh0 W hP
  obtain ⟨rfl, hA, hB, hne, l1, l2, hp⟩ := hP
  have c1 : Steps p.tables e below (s₁.setTop (entryFrame m #[.ref b, .int (Int32.ofNat o), .ref d, .int (Int32.ofNat q), .int (Int32.ofNat len)] 7)) (s₁.setTop (mkF m 0 #[.val (.ref b), .val (.int (Int32.ofNat o)), .val (.ref d), .val (.int (Int32.ofNat q)), .val (.int (Int32.ofNat len)), .unset, .unset] [])) := entry rfl
  have hA0 := hA.1.mv X0.warmed.alike hh0
  have hB0 := hB.mv X0.warmed.alike hh0
  have a31 := hA.1.2.2.2
  have c2 : Steps p.tables e below (s₁.setTop (entryFrame m #[.ref b, .int (Int32.ofNat o), .ref d, .int (Int32.ofNat q), .int (Int32.ofNat len)] 7)) (s₁.setTop (mkF m 3 #[.val (.ref b), .val (.int (Int32.ofNat o)), .val (.ref d), .val (.int (Int32.ofNat q)), .val (.int (Int32.ofNat len)), .val (.int 0), .unset] [])) := c1.trans (by
    refine iconstV X0.here hexec rfl 0 (hb hbytes d0) (by decide) ?_
    refine XS.istore X0.here hexec rfl (hb hbytes d1) rfl rfl ?_
    exact Steps.refl _)
  have loop : ∀ (r i : Nat), i + r = len → ∀ (z : Slot), (z = .unset ∨ ∃ w, z = .val w ∧ w.category = 1) → ∀ (Tl : State) (Bk : Cell), Stand p l e { frames := 0, locals := 0, cells := 0, slots := 0 } s m #[.ref b, .int (Int32.ofNat o), .ref d, .int (Int32.ofNat q), .int (Int32.ofNat len)] below meth c Tl ([] ++ copyLocs d q i) 0 0 → Put d Bk s₁ Tl → Laid B Bk q (q + i) (fun j => Value.int (lo8 (cv A (o + (j - q))))) →
      Steps p.tables e below (s₁.setTop (entryFrame m #[.ref b, .int (Int32.ofNat o), .ref d, .int (Int32.ofNat q), .int (Int32.ofNat len)] 7)) (Tl.setTop (mkF m 3 #[.val (.ref b), .val (.int (Int32.ofNat (o + i))), .val (.ref d), .val (.int (Int32.ofNat (q + i))), .val (.int (Int32.ofNat len)), .val (.int (Int32.ofNat i)), z] [])) → ∃ (T' : State) (B' : Cell) (z' : Slot), Stand p l e { frames := 0, locals := 0, cells := 0, slots := 0 } s m #[.ref b, .int (Int32.ofNat o), .ref d, .int (Int32.ofNat q), .int (Int32.ofNat len)] below meth c T' ([] ++ copyLocs d q len) 0 0 ∧ Put d B' s₁ T' ∧ Laid B B' q (q + len) (fun j => Value.int (lo8 (cv A (o + (j - q))))) ∧
      Steps p.tables e below (s₁.setTop (entryFrame m #[.ref b, .int (Int32.ofNat o), .ref d, .int (Int32.ofNat q), .int (Int32.ofNat len)] 7)) (T'.setTop (mkF m 3 #[.val (.ref b), .val (.int (Int32.ofNat (o + len))), .val (.ref d), .val (.int (Int32.ofNat (q + len))), .val (.int (Int32.ofNat len)), .val (.int (Int32.ofNat len)), z'] [])) := by
    intro r
    induction r with
    | zero =>
      intro i hi z hz Tl Bk Xl pl fl cl
      have hil : i = len := by omega
      rw [hil] at Xl fl cl
      exact ⟨Tl, Bk, z, Xl, pl, fl, cl⟩
    | succ r ih =>
      intro i hi z hz Tl Bk Xl pl fl cl
      have all := X0.warmed.alike.symm.trans Xl.warmed.alike
      have hAl := hA0.keep all (pl.other hne hA0.1)
      have hBk := hB0.like all pl.1 fl.1 fl.2.1 fl.2.2.1
      have hlt : q + i < Bk.slots.size := by rw [fl.2.2.1]; omega
      have c3 : Steps p.tables e below (s₁.setTop (entryFrame m #[.ref b, .int (Int32.ofNat o), .ref d, .int (Int32.ofNat q), .int (Int32.ofNat len)] 7)) (Tl.setTop (mkF m 12 #[.val (.ref b), .val (.int (Int32.ofNat (o + i))), .val (.ref d), .val (.int (Int32.ofNat (q + i))), .val (.int (Int32.ofNat len)), .val (.int (Int32.ofNat i)), z] [.int (Int32.ofNat (o + i)), .ref b])) := cl.trans (by
        refine XS.iload Xl.here hexec rfl (hb hbytes d3) rfl ?_
        refine XS.iload Xl.here hexec rfl (hb hbytes d5) rfl ?_
        refine XS.icmpNo Xl.here hexec rfl (hb hbytes d7) rfl (ii_ge_f (lt32 (by omega) (by omega))) ?_
        refine XS.aloadN Xl.here hexec rfl (hb hbytes d10) rfl rfl ?_
        refine XS.iloadN Xl.here hexec rfl (hb hbytes d11) rfl ?_
        exact Steps.refl _)
      have c4 : Steps p.tables e below (s₁.setTop (entryFrame m #[.ref b, .int (Int32.ofNat o), .ref d, .int (Int32.ofNat q), .int (Int32.ofNat len)] 7)) (Tl.setTop (mkF m 13 #[.val (.ref b), .val (.int (Int32.ofNat (o + i))), .val (.ref d), .val (.int (Int32.ofNat (q + i))), .val (.int (Int32.ofNat len)), .val (.int (Int32.ofNat i)), z] [.int (cv A (o + i))])) := c3.trans (by
        refine Xl.aget hexec hAl rfl (hA.get (i := o + i) (by omega)) rfl rfl (hb hbytes d12) ?_
        exact Steps.refl _)
      have c5 : Steps p.tables e below (s₁.setTop (entryFrame m #[.ref b, .int (Int32.ofNat o), .ref d, .int (Int32.ofNat q), .int (Int32.ofNat len)] 7)) (Tl.setTop (mkF m 15 #[.val (.ref b), .val (.int (Int32.ofNat (o + i))), .val (.ref d), .val (.int (Int32.ofNat (q + i))), .val (.int (Int32.ofNat len)), .val (.int (Int32.ofNat i)), .val (.int (cv A (o + i)))] [])) := c4.trans (by
        refine XS.istoreS Xl.here hexec rfl (hb hbytes d13) rfl rfl hz ?_
        exact Steps.refl _)
      have c6 : Steps p.tables e below (s₁.setTop (entryFrame m #[.ref b, .int (Int32.ofNat o), .ref d, .int (Int32.ofNat q), .int (Int32.ofNat len)] 7)) (Tl.setTop (mkF m 31 #[.val (.ref b), .val (.int (Int32.ofNat (o + i))), .val (.ref d), .val (.int (Int32.ofNat (q + i))), .val (.int (Int32.ofNat len)), .val (.int (Int32.ofNat i)), .val (.int (cv A (o + i)))] [.int (lo8 (cv A (o + i))), .int (Int32.ofNat (q + i)), .ref d])) := c5.trans (by
        refine XS.iload Xl.here hexec rfl (hb hbytes d15) rfl ?_
        refine sipushV Xl.here hexec rfl 255 (hb hbytes d17) (by decide) ?_
        refine XS.icmpYes Xl.here hexec rfl (pc0 := 20) rfl (hb hbytes d20) rfl (ii_le_t (hp i (by omega))) (by decide) rfl ?_
        refine XS.aloadN Xl.here hexec rfl (hb hbytes d26) rfl rfl ?_
        refine XS.iloadN Xl.here hexec rfl (hb hbytes d27) rfl ?_
        refine XS.iload Xl.here hexec rfl (hb hbytes d28) rfl ?_
        refine i2b Xl.here hexec rfl (hb hbytes d30) rfl ?_
        exact Steps.refl _)
      obtain ⟨T7, X7, p7, st7⟩ := Xl.aput hexec hBk rfl hlt rfl (fits_lo8 (cv A (o + i))) (g := (mkF m 31 #[.val (.ref b), .val (.int (Int32.ofNat (o + i))), .val (.ref d), .val (.int (Int32.ofNat (q + i))), .val (.int (Int32.ofNat len)), .val (.int (Int32.ofNat i)), .val (.int (cv A (o + i)))] [.int (lo8 (cv A (o + i))), .int (Int32.ofNat (q + i)), .ref d])) rfl (rest := []) rfl (hb hbytes d31)
      have c8 : Steps p.tables e below (s₁.setTop (entryFrame m #[.ref b, .int (Int32.ofNat o), .ref d, .int (Int32.ofNat q), .int (Int32.ofNat len)] 7)) (T7.setTop (mkF m 32 #[.val (.ref b), .val (.int (Int32.ofNat (o + i))), .val (.ref d), .val (.int (Int32.ofNat (q + i))), .val (.int (Int32.ofNat len)), .val (.int (Int32.ofNat i)), .val (.int (cv A (o + i)))] [])) := c6.trans (st7 _ (Steps.refl _))
      have c9 : Steps p.tables e below (s₁.setTop (entryFrame m #[.ref b, .int (Int32.ofNat o), .ref d, .int (Int32.ofNat q), .int (Int32.ofNat len)] 7)) (T7.setTop (mkF m 3 #[.val (.ref b), .val (.int (Int32.ofNat (o + i) + 1)), .val (.ref d), .val (.int (Int32.ofNat (q + i) + 1)), .val (.int (Int32.ofNat len)), .val (.int (Int32.ofNat i + 1)), .val (.int (cv A (o + i)))] [])) := c8.trans (by
        refine iincV X7.here hexec rfl 1 (hb hbytes d32) (by decide) rfl rfl ?_
        refine iincV X7.here hexec rfl 1 (hb hbytes d35) (by decide) rfl rfl ?_
        refine iincV X7.here hexec rfl 1 (hb hbytes d38) (by decide) rfl rfl ?_
        refine XS.goto X7.here hexec rfl (pc0 := 41) rfl (hb hbytes d41) (by decide) rfl ?_
        exact Steps.refl _)
      have c10 : Steps p.tables e below (s₁.setTop (entryFrame m #[.ref b, .int (Int32.ofNat o), .ref d, .int (Int32.ofNat q), .int (Int32.ofNat len)] 7)) (T7.setTop (mkF m 3 #[.val (.ref b), .val (.int (Int32.ofNat (o + (i + 1)))), .val (.ref d), .val (.int (Int32.ofNat (q + (i + 1)))), .val (.int (Int32.ofNat len)), .val (.int (Int32.ofNat (i + 1))), .val (.int (cv A (o + i)))] [])) := by
        have := c9
        rw [succ32, succ32, succ32] at this
        exact this
      exact ih (i + 1) (by omega) _ (Or.inr ⟨_, rfl, rfl⟩) T7 _ (by rw [copyLocs_step, ← List.append_assoc]; exact X7) (pl.trans p7) (fl.step (by omega) hlt (by simp)) c10
  obtain ⟨T9, B9, z9, X9, p9, f9, g9⟩ := loop len 0 (by omega) .unset (Or.inl rfl) s₁ B (by simpa [copyLocs] using X0) ⟨hB0.1, fun _ _ => rfl, rfl⟩ (Laid.zero _ _ _) c2
  have c11 : Steps p.tables e below (s₁.setTop (entryFrame m #[.ref b, .int (Int32.ofNat o), .ref d, .int (Int32.ofNat q), .int (Int32.ofNat len)] 7)) (T9.setTop (mkF m 46 #[.val (.ref b), .val (.int (Int32.ofNat (o + len))), .val (.ref d), .val (.int (Int32.ofNat (q + len))), .val (.int (Int32.ofNat len)), .val (.int (Int32.ofNat len)), z9] [.int (Int32.ofNat len)])) := g9.trans (by
    refine XS.iload X9.here hexec rfl (hb hbytes d3) rfl ?_
    refine XS.iload X9.here hexec rfl (hb hbytes d5) rfl ?_
    refine XS.icmpYes X9.here hexec rfl (pc0 := 7) rfl (hb hbytes d7) rfl (ii_ge_t (nlt32 (by omega) (Nat.le_refl _))) (by decide) rfl ?_
    refine XS.iload X9.here hexec rfl (hb hbytes d44) rfl ?_
    exact Steps.refl _)
  exact ⟨T9, some (.int (Int32.ofNat len)), _, _, _, X9, by simp, rfl, rfl, (fun h => by cases h), ⟨rfl, B9, p9.from hh0, f9⟩, fun fs hl => c11.trans (X9.ireturnOut hexec hret rfl (Or.inl rfl) (hb hbytes d46) hl)⟩
end Cmp5
namespace Cmp3
def yN : MethodName := ⟨"java/lang/StringUTF16", "compress", "([CII)[B"⟩
abbrev yB : ByteArray := jdk_52_method_16_code
theorem d0 : decode yB 0 = .ok (.iload_n 2, 1) := by decide +kernel
theorem d1 : decode yB 1 = .ok (.newarray .byte, 2) := by decide +kernel
theorem d3 : decode yB 3 = .ok (.astore_n 3, 1) := by decide +kernel
theorem d4 : decode yB 4 = .ok (.aload_n 0, 1) := by decide +kernel
theorem d5 : decode yB 5 = .ok (.iload_n 1, 1) := by decide +kernel
theorem d6 : decode yB 6 = .ok (.aload_n 3, 1) := by decide +kernel
theorem d7 : decode yB 7 = .ok (.iconst 0, 1) := by decide +kernel
theorem d8 : decode yB 8 = .ok (.iload_n 2, 1) := by decide +kernel
theorem d9 : decode yB 9 = .ok (.invokestatic 115, 3) := by decide +kernel
theorem d12 : decode yB 12 = .ok (.istore 4, 2) := by decide +kernel
theorem d14 : decode yB 14 = .ok (.iload 4, 2) := by decide +kernel
theorem d16 : decode yB 16 = .ok (.iload_n 2, 1) := by decide +kernel
theorem d17 : decode yB 17 = .ok (.if_icmp (.eq) 40, 3) := by decide +kernel
theorem d57 : decode yB 57 = .ok (.aload_n 3, 1) := by decide +kernel
theorem d58 : decode yB 58 = .ok (.areturn, 1) := by decide +kernel
def site : List Cond := [.arrayClass .byte, Cmp5.tab] ++ staticW U16 115 Cmp5.yN
def tab : Cond := tabOf yN yB 6 (some (.array .byte)) site
def P (b : Addr) (A : Cell) (o len : Nat) (args : Array Value) (s : State) : Prop := args = #[.ref b, .int (Int32.ofNat o), .int (Int32.ofNat len)] ∧ Ch b A s ∧ o + len ≤ A.slots.size ∧ len ≤ 536870912 ∧ ∀ i, i < len → ¬ 255 < cv A (o + i)
def E (b : Addr) (A : Cell) (o len : Nat) (r : Option Value) (s u : State) : Prop := NewArr .byte "[B" len (fun j => .int (lo8 (cv A (o + j)))) r s u ∧ u.heap.size = s.heap.size + 1
/-- no char of the range above 255: a new byte[] of their low bytes -/
theorem law (l : Launch) (b : Addr) (A : Cell) (o len : Nat) : Law l yN 3 3 1 18 yB 6 (some (.array .byte)) site (P b A o len) (E b A o len) [] 1 len := by
  refine Law.of_walk (plainFor_of_name (by decide +kernel)) (by decide +kernel) (by decide +kernel) (by decide) (fun _ _ h => by rw [h.1]; rfl) (fun _ U U' hal hh h => ⟨h.1, h.2.1.mv hal hh, h.2.2⟩) (fun r U U' V V' h1 hal h2 h => ⟨NewArr.mv r U U' V V' h1 hal h2 h.1, by rw [h1, h2]; exact h.2⟩) ?_
  intro p e s m args below meth c s₁ X0 hexec hbytes hml hret hlk hnm hown hh0 W hP
  obtain ⟨rfl, hA, l1, l2, hp⟩ := hP
  have a31 := hA.1.2.2.2
  have c1 : Steps p.tables e below (s₁.setTop (entryFrame m #[.ref b, .int (Int32.ofNat o), .int (Int32.ofNat len)] 6)) (s₁.setTop (mkF m 0 #[.val (.ref b), .val (.int (Int32.ofNat o)), .val (.int (Int32.ofNat len)), .unset, .unset, .unset] [])) := entry rfl
  have c2 : Steps p.tables e below (s₁.setTop (entryFrame m #[.ref b, .int (Int32.ofNat o), .int (Int32.ofNat len)] 6)) (s₁.setTop (mkF m 1 #[.val (.ref b), .val (.int (Int32.ofNat o)), .val (.int (Int32.ofNat len)), .unset, .unset, .unset] [.int (Int32.ofNat len)])) := c1.trans (by
    refine XS.iloadN X0.here hexec rfl (hb hbytes d0) rfl ?_
    exact Steps.refl _)
  obtain ⟨T3, B3, X3, ba3, bs3, bv3, bh3, bf3, st3⟩ := X0.anew hexec (atype := .byte) (wk W (.arrayClass .byte)) rfl (by show len * 1 ≤ _; omega) (by omega) (g := (mkF m 1 #[.val (.ref b), .val (.int (Int32.ofNat o)), .val (.int (Int32.ofNat len)), .unset, .unset, .unset] [.int (Int32.ofNat len)])) rfl (hb hbytes d1) (rest := []) rfl (Nat.le_refl _) (by show 0 + len ≤ len; omega)
  rw [hh0] at ba3 st3
  have kp3 : XT.Kept s T3 := (XT.Kept.of_eq hh0).push bh3
  have hA3 := hA.keep X3.warmed.alike (kp3 _ _ hA.1.1)
  have hne : b ≠ s.heap.size := hA.1.ne
  have c4 : Steps p.tables e below (s₁.setTop (entryFrame m #[.ref b, .int (Int32.ofNat o), .int (Int32.ofNat len)] 6)) (T3.setTop (mkF m 3 #[.val (.ref b), .val (.int (Int32.ofNat o)), .val (.int (Int32.ofNat len)), .unset, .unset, .unset] [.ref s.heap.size])) := c2.trans (st3 _ (Steps.refl _))
  have c5 : Steps p.tables e below (s₁.setTop (entryFrame m #[.ref b, .int (Int32.ofNat o), .int (Int32.ofNat len)] 6)) (T3.setTop (mkF m 9 #[.val (.ref b), .val (.int (Int32.ofNat o)), .val (.int (Int32.ofNat len)), .val (.ref s.heap.size), .unset, .unset] [.int (Int32.ofNat len), .int 0, .ref s.heap.size, .int (Int32.ofNat o), .ref b])) := c4.trans (by
    refine XS.astoreN X3.here hexec rfl (hb hbytes d3) rfl rfl rfl ?_
    refine XS.aloadN X3.here hexec rfl (hb hbytes d4) rfl rfl ?_
    refine XS.iloadN X3.here hexec rfl (hb hbytes d5) rfl ?_
    refine XS.aloadN X3.here hexec rfl (hb hbytes d6) rfl rfl ?_
    refine iconstV X3.here hexec rfl 0 (hb hbytes d7) (by decide) ?_
    refine XS.iloadN X3.here hexec rfl (hb hbytes d8) rfl ?_
    exact Steps.refl _)
  obtain ⟨v6, T6, X6, E6, g6⟩ := X3.callS hexec (Cmp5.law l b A s.heap.size B3 o 0 len) hown (wks W (staticW U16 115 Cmp5.yN)) (wk W Cmp5.tab) (W := 0) (Nat.le_of_ble_eq_true rfl) (Nat.le_of_ble_eq_true rfl) (Nat.le_refl _) (by show 0 + len + 0 ≤ len; omega) (g := (mkF m 9 #[.val (.ref b), .val (.int (Int32.ofNat o)), .val (.int (Int32.ofNat len)), .val (.ref s.heap.size), .unset, .unset] [.int (Int32.ofNat len), .int (Int32.ofNat 0), .ref s.heap.size, .int (Int32.ofNat o), .ref b])) rfl (by rw [hml]; rfl) c5 (argsL := [.ref b, .int (Int32.ofNat o), .ref s.heap.size, .int (Int32.ofNat 0), .int (Int32.ofNat len)]) (rest := []) rfl rfl (by show 2 * 0 + 0 ≤ _; decide) (hb hbytes d9) (⟨rfl, hA3, ba3, hne, l1, by rw [bs3]; simp, hp⟩)
  obtain ⟨rfl, B6, p6, f6⟩ := E6
  have c7 : Steps p.tables e below (s₁.setTop (entryFrame m #[.ref b, .int (Int32.ofNat o), .int (Int32.ofNat len)] 6)) (T6.setTop (mkF m 12 #[.val (.ref b), .val (.int (Int32.ofNat o)), .val (.int (Int32.ofNat len)), .val (.ref s.heap.size), .unset, .unset] [.int (Int32.ofNat len)])) := g6
  have c8 : Steps p.tables e below (s₁.setTop (entryFrame m #[.ref b, .int (Int32.ofNat o), .int (Int32.ofNat len)] 6)) (T6.setTop (mkF m 58 #[.val (.ref b), .val (.int (Int32.ofNat o)), .val (.int (Int32.ofNat len)), .val (.ref s.heap.size), .val (.int (Int32.ofNat len)), .unset] [.ref s.heap.size])) := c7.trans (by
    refine XS.istore X6.here hexec rfl (hb hbytes d12) rfl rfl ?_
    refine XS.iload X6.here hexec rfl (hb hbytes d14) rfl ?_
    refine XS.iloadN X6.here hexec rfl (hb hbytes d16) rfl ?_
    refine XS.icmpYes X6.here hexec rfl (pc0 := 17) rfl (hb hbytes d17) rfl (ii_eq_t rfl) (by decide) rfl ?_
    refine XS.aloadN X6.here hexec rfl (hb hbytes d57) rfl rfl ?_
    exact Steps.refl _)
  have X8 := X6.wide (L' := []) (cells' := 1) (slots' := len) (fun x hx hlt => by
    simp only [List.nil_append, copyLocs, List.mem_map, List.mem_range] at hx
    obtain ⟨i, -, rfl⟩ := hx
    exact absurd hlt (Nat.lt_irrefl _)) (Nat.le_refl _) (by omega)
  exact ⟨T6, some (.ref s.heap.size), _, _, _, X8, rfl, rfl, rfl, (fun h => by cases h), ⟨⟨rfl, B6, ba3.like (X3.warmed.alike.symm.trans X6.warmed.alike) p6.1 f6.1 f6.2.1 f6.2.2.1, f6.2.1.trans bv3, by rw [X6.warmed.alike.findClass, f6.1]; exact bf3, by rw [f6.2.2.1, bs3]; simp, fun j hj => by rw [f6.2.2.2 j, if_pos (by omega)]; rfl, kp3.put p6 (Nat.le_refl _)⟩, by rw [p6.2.2, bh3, hh0]; simp⟩, fun fs hl => c8.trans (X8.areturnOut hexec rfl hret rfl (hb hbytes d58) hl)⟩
end Cmp3
namespace CodL
def yN : MethodName := ⟨"java/lang/StringUTF16", "coderFromArrayLen", "([BI)B"⟩
abbrev yB : ByteArray := jdk_52_method_15_code
theorem d0 : decode yB 0 = .ok (.iload_n 1, 1) := by decide +kernel
theorem d1 : decode yB 1 = .ok (.aload_n 0, 1) := by decide +kernel
theorem d2 : decode yB 2 = .ok (.arraylength, 1) := by decide +kernel
theorem d3 : decode yB 3 = .ok (.isub, 1) := by decide +kernel
theorem d4 : decode yB 4 = .ok (.bipush 31, 2) := by decide +kernel
theorem d6 : decode yB 6 = .ok (.iushr, 1) := by decide +kernel
theorem d7 : decode yB 7 = .ok (.i2b, 1) := by decide +kernel
theorem d8 : decode yB 8 = .ok (.ireturn, 1) := by decide +kernel
def site : List Cond := []
def tab : Cond := tabOf yN yB 2 (some .byte) site
def P (d : Addr) (B : Cell) (args : Array Value) (s : State) : Prop := args = #[.ref d, .int (Int32.ofNat B.slots.size)] ∧ Arr .byte d B s
def E (r : Option Value) (s u : State) : Prop := XT.PureE (some (.int 0)) r s u
/-- an array as long as the number of chars: LATIN1 -/
theorem law (l : Launch) (d : Addr) (B : Cell) : Law l yN 2 2 0 0 yB 2 (some .byte) site (P d B) E [] 0 0 := by
  refine Law.of_walk (plainFor_of_name (by decide +kernel)) (by decide +kernel) (by decide +kernel) (by decide) (fun _ _ h => by rw [h.1]; rfl) (fun _ U U' hal hh h => ⟨h.1, h.2.mv hal hh⟩) (fun r U U' V V' h1 hal h2 h => XT.PureE.mv r U U' V V' h1 hal h2 h) ?_
  intro p e s m args below meth c s₁ X0 hexec hbytes hml hret hlk hnm hown hh0 W hP
  obtain ⟨rfl, hB⟩ := hP
  have hB0 := hB.mv X0.warmed.alike hh0
  have c1 : Steps p.tables e below (s₁.setTop (entryFrame m #[.ref d, .int (Int32.ofNat B.slots.size)] 2)) (s₁.setTop (mkF m 0 #[.val (.ref d), .val (.int (Int32.ofNat B.slots.size))] [])) := entry rfl
  have c2 : Steps p.tables e below (s₁.setTop (entryFrame m #[.ref d, .int (Int32.ofNat B.slots.size)] 2)) (s₁.setTop (mkF m 2 #[.val (.ref d), .val (.int (Int32.ofNat B.slots.size))] [.ref d, .int (Int32.ofNat B.slots.size)])) := c1.trans (by
    refine XS.iloadN X0.here hexec rfl (hb hbytes d0) rfl ?_
    refine XS.aloadN X0.here hexec rfl (hb hbytes d1) rfl rfl ?_
    exact Steps.refl _)
  have c3 : Steps p.tables e below (s₁.setTop (entryFrame m #[.ref d, .int (Int32.ofNat B.slots.size)] 2)) (s₁.setTop (mkF m 8 #[.val (.ref d), .val (.int (Int32.ofNat B.slots.size))] [.int (lo8 (ushr (Int32.ofNat B.slots.size - Int32.ofNat B.slots.size) 31))])) := c2.trans (by
    refine X0.alen hexec hB0 rfl rfl (hb hbytes d2) ?_
    refine XS.isub X0.here hexec rfl (hb hbytes d3) rfl ?_
    refine bipushV X0.here hexec rfl 31 (hb hbytes d4) (by decide) ?_
    refine iushr X0.here hexec rfl (hb hbytes d6) rfl ?_
    refine i2b X0.here hexec rfl (hb hbytes d7) rfl ?_
    exact Steps.refl _)
  have e0 : lo8 (ushr (Int32.ofNat B.slots.size - Int32.ofNat B.slots.size) 31) = 0 := by rw [Int32.sub_self]; decide
  rw [e0] at c3
  exact ⟨s₁, some (.int 0), _, _, _, X0, rfl, rfl, rfl, (fun h => by cases h), ⟨rfl, hh0⟩, fun fs hl => c3.trans (X0.ireturnOut hexec hret rfl (Or.inr (Or.inr (Or.inl rfl))) (hb hbytes d8) hl)⟩
end CodL
/-- the String at a is Latin-1 over a new byte[] (the heap's one new cell): the low bytes of the len chars of A from o on; every cell but a is kept -/
def Got (a : Addr) (D : Cell) (fV fC : Field) (A : Cell) (o len : Nat) (r : Option Value) (s u : State) : Prop := r = none ∧ ∃ D' V : Cell, Blank "java/lang/String" a D' u ∧ Same D D' [fV.slot, fC.slot] ∧ D'.slots[fV.slot]? = some (.ref s.heap.size) ∧ D'.slots[fC.slot]? = some (.int 0) ∧ Arr .byte s.heap.size V u ∧ V.vm = .none ∧ u.vm.findClass "[B" = some V.cls ∧ V.slots.size = len ∧ (∀ j, j < len → V.slots[j]? = some (.int (lo8 (cv A (o + j))))) ∧ (∀ (y : Addr) (c : Cell), y ≠ a → s.heap[y]? = some c → u.heap[y]? = some c) ∧ u.heap.size = s.heap.size + 1
theorem Got.mv {a : Addr} {D A : Cell} {fV fC : Field} {o len : Nat} : ∀ r (U U' V V' : State), U'.heap = U.heap → V.vm.Alike V'.vm → V'.heap = V.heap → Got a D fV fC A o len r U V → Got a D fV fC A o len r U' V' :=
  fun r U U' V V' h1 hal h2 ⟨e0, D', X, a1, a2, a3, a4, a5, a6, a7, a8, a9, a10, a11⟩ => ⟨e0, D', X, a1.mv hal h2, a2, by rw [h1]; exact a3, a4, by rw [h1]; exact a5.mv hal h2, a6, by rw [hal.findClass]; exact a7, a8, a9, by rw [h1, h2]; exact a10, by rw [h1, h2]; exact a11⟩
namespace New4
def yN : MethodName := ⟨"java/lang/String", "<init>", "([CIILjava/lang/Void;)V"⟩
abbrev yB : ByteArray := jdk_42_method_149_code
theorem d0 : decode yB 0 = .ok (.aload_n 0, 1) := by decide +kernel
theorem d1 : decode yB 1 = .ok (.invokespecial 1, 3) := by decide +kernel
theorem d4 : decode yB 4 = .ok (.iload_n 3, 1) := by decide +kernel
theorem d5 : decode yB 5 = .ok (.ifCond (.ne) 22, 3) := by decide +kernel
theorem d27 : decode yB 27 = .ok (.getstatic 38, 3) := by decide +kernel
theorem d30 : decode yB 30 = .ok (.ifCond (.eq) 28, 3) := by decide +kernel
theorem d33 : decode yB 33 = .ok (.aload_n 1, 1) := by decide +kernel
theorem d34 : decode yB 34 = .ok (.iload_n 2, 1) := by decide +kernel
theorem d35 : decode yB 35 = .ok (.iload_n 3, 1) := by decide +kernel
theorem d36 : decode yB 36 = .ok (.invokestatic 177, 3) := by decide +kernel
theorem d39 : decode yB 39 = .ok (.astore 5, 2) := by decide +kernel
theorem d41 : decode yB 41 = .ok (.aload_n 0, 1) := by decide +kernel
theorem d42 : decode yB 42 = .ok (.aload 5, 2) := by decide +kernel
theorem d44 : decode yB 44 = .ok (.iload_n 3, 1) := by decide +kernel
theorem d45 : decode yB 45 = .ok (.invokestatic 47, 3) := by decide +kernel
theorem d48 : decode yB 48 = .ok (.putfield 15, 3) := by decide +kernel
theorem d51 : decode yB 51 = .ok (.aload_n 0, 1) := by decide +kernel
theorem d52 : decode yB 52 = .ok (.aload 5, 2) := by decide +kernel
theorem d54 : decode yB 54 = .ok (.putfield 9, 3) := by decide +kernel
theorem d57 : decode yB 57 = .ok (.return_, 1) := by decide +kernel
def site : List Cond := [.fieldLink "java/lang/String" 38 "java/lang/String" "COMPACT_STRINGS" "Z", Cmp3.tab, CodL.tab, .laysFinal "java/lang/String" "java/lang/String" "value" "[B", .fieldLink "java/lang/String" 9 "java/lang/String" "value" "[B", .laysFinal "java/lang/String" "java/lang/String" "coder" "B", .fieldLink "java/lang/String" 15 "java/lang/String" "coder" "B"] ++ objW "java/lang/String" 1 ++ staticW "java/lang/String" 177 Cmp3.yN ++ staticW "java/lang/String" 47 CodL.yN
def tab : Cond := tabOf yN yB 6 none site
def P (a : Addr) (D : Cell) (fV fC : Field) (b : Addr) (A : Cell) (z : Int32) (o len : Nat) (args : Array Value) (s : State) : Prop := args = #[.ref a, .ref b, .int (Int32.ofNat o), .int (Int32.ofNat len), .null] ∧ Blank "java/lang/String" a D s ∧ Found "java/lang/String" "value" "[B" fV s ∧ Found "java/lang/String" "coder" "B" fC s ∧ Ch b A s ∧ StaticIs s "java/lang/String" "COMPACT_STRINGS" "Z" (.int z) ∧ ¬ z = 0 ∧ 0 < len ∧ o + len ≤ A.slots.size ∧ len ≤ 536870912 ∧ ∀ i, i < len → ¬ 255 < cv A (o + i)
def E (a : Addr) (D : Cell) (fV fC : Field) (A : Cell) (o len : Nat) (r : Option Value) (s u : State) : Prop := Got a D fV fC A o len r s u
/-- len > 0, no char of the range above 255: a Latin-1 String of their low bytes -/
theorem law (l : Launch) (a : Addr) (D : Cell) (fV fC : Field) (b : Addr) (A : Cell) (z : Int32) (o len : Nat) : Law l yN 5 4 2 35 yB 6 none site (P a D fV fC b A z o len) (E a D fV fC A o len) [⟨a, fC.slot⟩, ⟨a, fV.slot⟩] 1 len := by
  refine Law.of_walk (plainFor_of_name (by decide +kernel)) (by decide +kernel) (by decide +kernel) (by decide) (fun _ _ h => by rw [h.1]; rfl) (fun _ U U' hal hh h => ⟨h.1, h.2.1.mv hal hh, h.2.2.1.al hal, h.2.2.2.1.al hal, h.2.2.2.2.1.mv hal hh, h.2.2.2.2.2.1.there hal hh, h.2.2.2.2.2.2⟩) (fun r U U' V V' h1 hal h2 h => Got.mv r U U' V V' h1 hal h2 h) ?_
  intro p e s m args below meth c s₁ X0 hexec hbytes hml hret hlk hnm hown hh0 W hP
  obtain ⟨rfl, hB, f1, f2, hA, s1, hz, l0, l1, l2, hp⟩ := hP
  have a31 := hA.1.2.2.2
  have c1 : Steps p.tables e below (s₁.setTop (entryFrame m #[.ref a, .ref b, .int (Int32.ofNat o), .int (Int32.ofNat len), .null] 6)) (s₁.setTop (mkF m 0 #[.val (.ref a), .val (.ref b), .val (.int (Int32.ofNat o)), .val (.int (Int32.ofNat len)), .val .null, .unset] [])) := entry rfl
  have c2 : Steps p.tables e below (s₁.setTop (entryFrame m #[.ref a, .ref b, .int (Int32.ofNat o), .int (Int32.ofNat len), .null] 6)) (s₁.setTop (mkF m 1 #[.val (.ref a), .val (.ref b), .val (.int (Int32.ofNat o)), .val (.int (Int32.ofNat len)), .val .null, .unset] [.ref a])) := c1.trans (by
    refine XS.aloadN X0.here hexec rfl (hb hbytes d0) rfl rfl ?_
    exact Steps.refl _)
  obtain ⟨T3, X3, q3, st3⟩ := X0.oinit hexec hown (wks W (objW "java/lang/String" 1)) (g := (mkF m 1 #[.val (.ref a), .val (.ref b), .val (.int (Int32.ofNat o)), .val (.int (Int32.ofNat len)), .val .null, .unset] [.ref a])) rfl (by rw [hml]; rfl) (rest := []) rfl (hb hbytes d1) (W := 0) (by show 2 * 0 + 0 ≤ _; decide) (Nat.le_of_ble_eq_true rfl) (Nat.le_of_ble_eq_true rfl)
  have hh3 := q3.trans hh0
  have c4 : Steps p.tables e below (s₁.setTop (entryFrame m #[.ref a, .ref b, .int (Int32.ofNat o), .int (Int32.ofNat len), .null] 6)) (T3.setTop (mkF m 27 #[.val (.ref a), .val (.ref b), .val (.int (Int32.ofNat o)), .val (.int (Int32.ofNat len)), .val .null, .unset] [])) := (c2.trans (st3 _ (Steps.refl _))).trans (by
    refine XS.iloadN X3.here hexec rfl (hb hbytes d4) rfl ?_
    refine XS.ifYes X3.here hexec rfl (pc0 := 5) rfl (hb hbytes d5) rfl (i0_ne_t (nz32 (by omega) l0)) (by decide) rfl ?_
    exact Steps.refl _)
  obtain ⟨T5, X5, q5, st5⟩ := X3.sget hexec hown (wk W (.fieldLink "java/lang/String" 38 "java/lang/String" "COMPACT_STRINGS" "Z")) s1 (fun _ _ h => by rw [hh3]; exact h) (g := (mkF m 27 #[.val (.ref a), .val (.ref b), .val (.int (Int32.ofNat o)), .val (.int (Int32.ofNat len)), .val .null, .unset] [])) rfl (hb hbytes d27)
  have hh5 := q5.trans hh3
  have c6 : Steps p.tables e below (s₁.setTop (entryFrame m #[.ref a, .ref b, .int (Int32.ofNat o), .int (Int32.ofNat len), .null] 6)) (T5.setTop (mkF m 30 #[.val (.ref a), .val (.ref b), .val (.int (Int32.ofNat o)), .val (.int (Int32.ofNat len)), .val .null, .unset] [.int z])) := c4.trans (st5 _ (Steps.refl _))
  have c7 : Steps p.tables e below (s₁.setTop (entryFrame m #[.ref a, .ref b, .int (Int32.ofNat o), .int (Int32.ofNat len), .null] 6)) (T5.setTop (mkF m 36 #[.val (.ref a), .val (.ref b), .val (.int (Int32.ofNat o)), .val (.int (Int32.ofNat len)), .val .null, .unset] [.int (Int32.ofNat len), .int (Int32.ofNat o), .ref b])) := c6.trans (by
    refine XS.ifNo X5.here hexec rfl (hb hbytes d30) rfl (i0_eq_f hz) ?_
    refine XS.aloadN X5.here hexec rfl (hb hbytes d33) rfl rfl ?_
    refine XS.iloadN X5.here hexec rfl (hb hbytes d34) rfl ?_
    refine XS.iloadN X5.here hexec rfl (hb hbytes d35) rfl ?_
    exact Steps.refl _)
  obtain ⟨v8, T8, X8, E8, g8⟩ := X5.callS hexec (Cmp3.law l b A o len) hown (wks W (staticW "java/lang/String" 177 Cmp3.yN)) (wk W Cmp3.tab) (W := 0) (Nat.le_of_ble_eq_true rfl) (Nat.le_of_ble_eq_true rfl) (Nat.le_refl _) (by show 0 + len ≤ len; omega) (g := (mkF m 36 #[.val (.ref a), .val (.ref b), .val (.int (Int32.ofNat o)), .val (.int (Int32.ofNat len)), .val .null, .unset] [.int (Int32.ofNat len), .int (Int32.ofNat o), .ref b])) rfl (by rw [hml]; rfl) c7 (argsL := [.ref b, .int (Int32.ofNat o), .int (Int32.ofNat len)]) (rest := []) rfl rfl (by show 2 * 0 + 0 ≤ _; decide) (hb hbytes d36) (⟨rfl, hA.mv X5.warmed.alike hh5, l1, l2, hp⟩)
  obtain ⟨e8, z8⟩ := E8
  obtain ⟨rfl, N, n1, n2, n3, n4, n5, n6⟩ := NewArr.mv _ T5 s _ _ hh5.symm (Vm.Alike.refl _) rfl e8
  rw [hh5] at z8
  have hB1 := hB.keep X8.warmed.alike (n6 _ _ hB.1)
  have hne : s.heap.size ≠ a := (Nat.ne_of_lt (Array.getElem?_eq_some_iff.mp hB.1).1).symm
  have c9 : Steps p.tables e below (s₁.setTop (entryFrame m #[.ref a, .ref b, .int (Int32.ofNat o), .int (Int32.ofNat len), .null] 6)) (T8.setTop (mkF m 39 #[.val (.ref a), .val (.ref b), .val (.int (Int32.ofNat o)), .val (.int (Int32.ofNat len)), .val .null, .unset] [.ref s.heap.size])) := g8
  have c10 : Steps p.tables e below (s₁.setTop (entryFrame m #[.ref a, .ref b, .int (Int32.ofNat o), .int (Int32.ofNat len), .null] 6)) (T8.setTop (mkF m 45 #[.val (.ref a), .val (.ref b), .val (.int (Int32.ofNat o)), .val (.int (Int32.ofNat len)), .val .null, .val (.ref s.heap.size)] [.int (Int32.ofNat N.slots.size), .ref s.heap.size, .ref a])) := by
    have hc : Steps p.tables e below (s₁.setTop (entryFrame m #[.ref a, .ref b, .int (Int32.ofNat o), .int (Int32.ofNat len), .null] 6)) (T8.setTop (mkF m 45 #[.val (.ref a), .val (.ref b), .val (.int (Int32.ofNat o)), .val (.int (Int32.ofNat len)), .val .null, .val (.ref s.heap.size)] [.int (Int32.ofNat len), .ref s.heap.size, .ref a])) := c9.trans (by
      refine XS.astore X8.here hexec rfl (hb hbytes d39) rfl rfl rfl ?_
      refine XS.aloadN X8.here hexec rfl (hb hbytes d41) rfl rfl ?_
      refine XS.aload X8.here hexec rfl (hb hbytes d42) rfl rfl ?_
      refine XS.iloadN X8.here hexec rfl (hb hbytes d44) rfl ?_
      exact Steps.refl _)
    rw [n4]; exact hc
  obtain ⟨v11, T11, X11, E11, g11⟩ := X8.callS hexec (CodL.law l s.heap.size N) hown (wks W (staticW "java/lang/String" 47 CodL.yN)) (wk W CodL.tab) (W := 1) (Nat.le_of_ble_eq_true rfl) (Nat.le_of_ble_eq_true rfl) (Nat.le_refl _) (by show 0 + len + 0 ≤ len; omega) (g := (mkF m 45 #[.val (.ref a), .val (.ref b), .val (.int (Int32.ofNat o)), .val (.int (Int32.ofNat len)), .val .null, .val (.ref s.heap.size)] [.int (Int32.ofNat N.slots.size), .ref s.heap.size, .ref a])) rfl (by rw [hml]; rfl) c10 (argsL := [.ref s.heap.size, .int (Int32.ofNat N.slots.size)]) (rest := [.ref a]) rfl rfl (by show 2 * 0 + (1 + 0) ≤ _; decide) (hb hbytes d45) (⟨rfl, n1⟩)
  obtain ⟨rfl, q11⟩ := E11
  have hB11 := hB1.mv (X8.warmed.alike.symm.trans X11.warmed.alike) q11
  have c12 : Steps p.tables e below (s₁.setTop (entryFrame m #[.ref a, .ref b, .int (Int32.ofNat o), .int (Int32.ofNat len), .null] 6)) (T11.setTop (mkF m 48 #[.val (.ref a), .val (.ref b), .val (.int (Int32.ofNat o)), .val (.int (Int32.ofNat len)), .val .null, .val (.ref s.heap.size)] [.int 0, .ref a])) := g11
  obtain ⟨T13, X13, p13, bl13, sl13, st13⟩ := X11.finit hexec hown (wk W (.fieldLink "java/lang/String" 15 "java/lang/String" "coder" "B")) (Or.inr ⟨_, (wk W (.laysFinal "java/lang/String" "java/lang/String" "coder" "B"))⟩) (Or.inl ⟨rfl, hnm⟩) f2 (Or.inl rfl) hB11 (t := .byte) (by decide +kernel) rfl (g := (mkF m 48 #[.val (.ref a), .val (.ref b), .val (.int (Int32.ofNat o)), .val (.int (Int32.ofNat len)), .val .null, .val (.ref s.heap.size)] [.int 0, .ref a])) rfl (rest := []) rfl (hb hbytes d48)
  have c14 : Steps p.tables e below (s₁.setTop (entryFrame m #[.ref a, .ref b, .int (Int32.ofNat o), .int (Int32.ofNat len), .null] 6)) (T13.setTop (mkF m 54 #[.val (.ref a), .val (.ref b), .val (.int (Int32.ofNat o)), .val (.int (Int32.ofNat len)), .val .null, .val (.ref s.heap.size)] [.ref s.heap.size, .ref a])) := (c12.trans (st13 _ (Steps.refl _))).trans (by
    refine XS.aloadN X13.here hexec rfl (hb hbytes d51) rfl rfl ?_
    refine XS.aload X13.here hexec rfl (hb hbytes d52) rfl rfl ?_
    exact Steps.refl _)
  obtain ⟨T15, X15, p15, bl15, sl15, st15⟩ := X13.finit hexec hown (wk W (.fieldLink "java/lang/String" 9 "java/lang/String" "value" "[B")) (Or.inr ⟨_, (wk W (.laysFinal "java/lang/String" "java/lang/String" "value" "[B"))⟩) (Or.inl ⟨rfl, hnm⟩) f1 (Or.inl rfl) bl13 (t := (.array .byte)) (by decide +kernel) rfl (g := (mkF m 54 #[.val (.ref a), .val (.ref b), .val (.int (Int32.ofNat o)), .val (.int (Int32.ofNat len)), .val .null, .val (.ref s.heap.size)] [.ref s.heap.size, .ref a])) rfl (rest := []) rfl (hb hbytes d54)
  have c16 : Steps p.tables e below (s₁.setTop (entryFrame m #[.ref a, .ref b, .int (Int32.ofNat o), .int (Int32.ofNat len), .null] 6)) (T15.setTop (mkF m 57 #[.val (.ref a), .val (.ref b), .val (.int (Int32.ofNat o)), .val (.int (Int32.ofNat len)), .val .null, .val (.ref s.heap.size)] [])) := c14.trans (st15 _ (Steps.refl _))
  have ap := apart (Or.inr ⟨_, (wk W (.laysFinal "java/lang/String" "java/lang/String" "value" "[B"))⟩) (Or.inr ⟨_, (wk W (.laysFinal "java/lang/String" "java/lang/String" "coder" "B"))⟩) f1 f2 (t₁ := .array .byte) (t₂ := .byte) (by decide +kernel) (by decide +kernel) (by decide)
  have al := X8.warmed.alike.symm.trans X15.warmed.alike
  have n7 : T11.heap[s.heap.size]? = some N := by rw [q11]; exact n1.1
  exact ⟨T15, none, _, _, _, X15, by simp, rfl, by omega, (fun _ => rfl), ⟨rfl, _, N, bl15, ((Same.refl D _).set _ (by simp)).set _ (by simp), sl15, (Cell.slots_setSlot_ne _ ap).trans sl13, n1.keep al (p15.other hne (p13.other hne n7)), n2, by rw [al.findClass]; exact n3, n4, n5, fun y c h1 h2 => p15.other h1 (p13.other h1 (by rw [q11]; exact n6 y c h2)), by rw [p15.2.2, p13.2.2, q11]; exact z8⟩, fun fs hl => c16.trans (X15.returnOut hexec hret (hb hbytes d57) hl)⟩
end New4
namespace New1
def yN : MethodName := ⟨"java/lang/String", "<init>", "([C)V"⟩
abbrev yB : ByteArray := jdk_42_method_3_code
theorem d0 : decode yB 0 = .ok (.aload_n 0, 1) := by decide +kernel
theorem d1 : decode yB 1 = .ok (.aload_n 1, 1) := by decide +kernel
theorem d2 : decode yB 2 = .ok (.iconst 0, 1) := by decide +kernel
theorem d3 : decode yB 3 = .ok (.aload_n 1, 1) := by decide +kernel
theorem d4 : decode yB 4 = .ok (.arraylength, 1) := by decide +kernel
theorem d5 : decode yB 5 = .ok (.aconst_null, 1) := by decide +kernel
theorem d6 : decode yB 6 = .ok (.invokespecial 27, 3) := by decide +kernel
theorem d9 : decode yB 9 = .ok (.return_, 1) := by decide +kernel
def site : List Cond := [New4.tab] ++ initW "java/lang/String" 27 New4.yN
def tab : Cond := tabOf yN yB 2 none site
def P (a : Addr) (D : Cell) (fV fC : Field) (b : Addr) (A : Cell) (z : Int32) (args : Array Value) (s : State) : Prop := args = #[.ref a, .ref b] ∧ Blank "java/lang/String" a D s ∧ Found "java/lang/String" "value" "[B" fV s ∧ Found "java/lang/String" "coder" "B" fC s ∧ Ch b A s ∧ StaticIs s "java/lang/String" "COMPACT_STRINGS" "Z" (.int z) ∧ ¬ z = 0 ∧ 0 < A.slots.size ∧ A.slots.size ≤ 536870912 ∧ ∀ i, i < A.slots.size → ¬ 255 < cv A i
def E (a : Addr) (D : Cell) (fV fC : Field) (A : Cell) (r : Option Value) (s u : State) : Prop := Got a D fV fC A 0 A.slots.size r s u
/-- new String(chars), not empty, no char above 255: a Latin-1 String of their low bytes -/
theorem law (l : Launch) (a : Addr) (D : Cell) (fV fC : Field) (b : Addr) (A : Cell) (z : Int32) : Law l yN 2 1 3 52 yB 2 none site (P a D fV fC b A z) (E a D fV fC A) [⟨a, fC.slot⟩, ⟨a, fV.slot⟩] 1 A.slots.size := by
  refine Law.of_walk (plainFor_of_name (by decide +kernel)) (by decide +kernel) (by decide +kernel) (by decide) (fun _ _ h => by rw [h.1]; rfl) (fun _ U U' hal hh h => ⟨h.1, h.2.1.mv hal hh, h.2.2.1.al hal, h.2.2.2.1.al hal, h.2.2.2.2.1.mv hal hh, h.2.2.2.2.2.1.there hal hh, h.2.2.2.2.2.2⟩) (fun r U U' V V' h1 hal h2 h => Got.mv r U U' V V' h1 hal h2 h) ?_
  intro p e s m args below meth c s₁ X0 hexec hbytes hml hret hlk hnm hown hh0 W hP
  obtain ⟨rfl, hB, f1, f2, hA, s1, hz, l0, l2, hp⟩ := hP
  have c1 : Steps p.tables e below (s₁.setTop (entryFrame m #[.ref a, .ref b] 2)) (s₁.setTop (mkF m 0 #[.val (.ref a), .val (.ref b)] [])) := entry rfl
  have c2 : Steps p.tables e below (s₁.setTop (entryFrame m #[.ref a, .ref b] 2)) (s₁.setTop (mkF m 6 #[.val (.ref a), .val (.ref b)] [.null, .int (Int32.ofNat A.slots.size), .int 0, .ref b, .ref a])) := c1.trans (by
    refine XS.aloadN X0.here hexec rfl (hb hbytes d0) rfl rfl ?_
    refine XS.aloadN X0.here hexec rfl (hb hbytes d1) rfl rfl ?_
    refine iconstV X0.here hexec rfl 0 (hb hbytes d2) (by decide) ?_
    refine XS.aloadN X0.here hexec rfl (hb hbytes d3) rfl rfl ?_
    refine X0.alen hexec (hA.1.mv X0.warmed.alike hh0) rfl rfl (hb hbytes d4) ?_
    refine XS.aconstNull X0.here hexec rfl (hb hbytes d5) ?_
    exact Steps.refl _)
  obtain ⟨v3, T3, X3, E3, g3⟩ := X0.callN hexec (New4.law l a D fV fC b A z 0 A.slots.size) rfl hown (wks W (initW "java/lang/String" 27 New4.yN)) (W New4.tab (by simp only [site, List.mem_cons, List.mem_append, true_or, or_true])) (W := 0) (Nat.le_of_ble_eq_true rfl) (Nat.le_of_ble_eq_true rfl) (Nat.le_refl _) (by show 0 + A.slots.size ≤ A.slots.size; omega) (g := (mkF m 6 #[.val (.ref a), .val (.ref b)] [.null, .int (Int32.ofNat A.slots.size), .int (Int32.ofNat 0), .ref b, .ref a])) rfl (by rw [hml]; rfl) c2 (argsL := [.ref b, .int (Int32.ofNat 0), .int (Int32.ofNat A.slots.size), .null]) (rest := []) rfl rfl (by show 2 * 0 + 0 ≤ _; decide) (hb hbytes d6) (⟨rfl, hB.mv X0.warmed.alike hh0, f1.al X0.warmed.alike, f2.al X0.warmed.alike, hA.mv X0.warmed.alike hh0, s1.there X0.warmed.alike hh0, hz, l0, by omega, l2, fun i hi => by rw [Nat.zero_add]; exact hp i hi⟩)
  have e0 := Got.mv _ s₁ s _ _ hh0.symm (Vm.Alike.refl _) rfl E3
  obtain rfl := e0.1
  have c4 : Steps p.tables e below (s₁.setTop (entryFrame m #[.ref a, .ref b] 2)) (T3.setTop (mkF m 9 #[.val (.ref a), .val (.ref b)] [])) := g3
  exact ⟨T3, none, _, _, _, X3, by simp, rfl, by omega, (fun _ => rfl), e0, fun fs hl => c4.trans (X3.returnOut hexec hret (hb hbytes d9) hl)⟩
theorem pays {l : Launch} {R : Room} {p : Program} {e : Env} {below : List Frame} {s : State} {sargs : Array Value} {len W : Nat} (a : Addr) (D : Cell) (fV fC : Field) (b : Addr) (A : Cell) (z : Int32) (htab : tab.before sargs s = true) (hfr : 4 ≤ R.frames) (hlo : W + 65 ≤ R.locals) :
    Back l R p e below s sargs yN len W (fun A₁ a₁ => A₁.cells + 1 ≤ R.cells ∧ A₁.slots + A.slots.size ≤ R.slots ∧ P a D fV fC b A z a₁ A₁.U) (fun A₁ _ v₁ B₁ => E a D fV fC A v₁ A₁.U B₁.U ∧ B₁.locs = A₁.locs ++ [⟨a, fC.slot⟩, ⟨a, fV.slot⟩] ∧ B₁.cells = A₁.cells + 1 ∧ B₁.slots = A₁.slots + A.slots.size) :=
  (law l a D fV fC b A z).pays htab hfr (by omega)
end New1
/-- the byte, read back as charAt reads it, is the char -/
theorem lo8_mask {x : Int32} (h0 : ¬ x < 0) (h1 : ¬ 255 < x) : lo8 x &&& 255 = x := by
  have t : ∀ k : Fin 256, lo8 (Int32.ofNat k.val) &&& 255 = Int32.ofNat k.val := by decide +kernel
  rw [Int32.lt_iff_toInt_lt] at h0 h1
  have e0 : (0 : Int32).toInt = 0 := rfl
  have e1 : (255 : Int32).toInt = 255 := rfl
  obtain ⟨k, hk⟩ : ∃ k : Nat, x.toInt = k := ⟨x.toInt.toNat, by omega⟩
  have hx : x = Int32.ofNat k := Int32.toInt_inj.mp (by rw [hk, Int32.toInt_ofNat_small (by omega)])
  rw [hx]
  exact t ⟨k, by omega⟩
end StrChars
namespace StrChars.Road
open Jvm Sem ClassFile Op Lib Jvm.Stand Jvm.Free Jvm.Free.XT
open Jvm.Lib.Cold (StaticIs)
abbrev ST : String := "java/lang/String"
/-- every table word that New1's law asks, flat -/
abbrev words : List Jvm.Cond := [.code New1.yN New1.yB 2 none, .initialized ST, .methodLink ST 27 New4.yN, .instanceMethod New4.yN,
  .code New4.yN New4.yB 6 none, .fieldLink ST 38 ST "COMPACT_STRINGS" "Z", .laysFinal ST ST "value" "[B", .fieldLink ST 9 ST "value" "[B", .laysFinal ST ST "coder" "B", .fieldLink ST 15 ST "coder" "B",
  .methodLink ST 1 Lib.objectInit, .instanceMethod Lib.objectInit, .code Lib.objectInit ⟨#[0xb1]⟩ 1 none, .methodLink ST 177 Cmp3.yN, .static Cmp3.yN, .methodLink ST 47 CodL.yN, .static CodL.yN,
  .code Cmp3.yN Cmp3.yB 6 (some (.array .byte)), .initialized U16, .arrayClass .byte, .methodLink U16 115 Cmp5.yN, .static Cmp5.yN, .code Cmp5.yN Cmp5.yB 7 (some .int), .code CodL.yN CodL.yB 2 (some .byte)]
theorem tab_of {a : Array Value} {s : State} (h : ∀ w ∈ words, w.before a s = true) : New1.tab.before a s = true := by
  have h5 : Cmp5.tab.before a s = true := unparts (wk h (.code Cmp5.yN Cmp5.yB 7 (some .int))) (wks h (.initialized Cmp5.yN.cls :: Cmp5.site))
  have hc : CodL.tab.before a s = true := unparts (wk h (.code CodL.yN CodL.yB 2 (some .byte))) (wks h (.initialized CodL.yN.cls :: CodL.site))
  have q5 : ∀ w ∈ Cmp5.tab :: words, w.before a s = true := fun w hw => (List.mem_cons.mp hw).elim (fun e => e ▸ h5) (h w)
  have h3 : Cmp3.tab.before a s = true := unparts (wk q5 (.code Cmp3.yN Cmp3.yB 6 (some (.array .byte)))) (wks q5 (.initialized Cmp3.yN.cls :: Cmp3.site))
  have q3 : ∀ w ∈ Cmp3.tab :: CodL.tab :: words, w.before a s = true := fun w hw => (List.mem_cons.mp hw).elim (fun e => e ▸ h3) fun hw => (List.mem_cons.mp hw).elim (fun e => e ▸ hc) (h w)
  have h4 : New4.tab.before a s = true := unparts (wk q3 (.code New4.yN New4.yB 6 none)) (wks q3 (.initialized New4.yN.cls :: New4.site))
  have q4 : ∀ w ∈ New4.tab :: words, w.before a s = true := fun w hw => (List.mem_cons.mp hw).elim (fun e => e ▸ h4) (h w)
  exact unparts (wk q4 (.code New1.yN New1.yB 2 none)) (wks q4 (.initialized New1.yN.cls :: New1.site))
/-- the words ride from the start Z to the walk's own state -/
theorem moved {Z s : State} {a0 args : Array Value} (hZ : Z.Warmed39 s.vm) (hw : ∀ d ∈ words, d.before a0 Z = true) : ∀ d ∈ words, d.before args s = true := fun d hd => by
  have q := hw d hd
  have t : ∀ d ∈ words, d = .arrayClass .byte ∨ (d.onTables && d.keepsFace) = true := by decide +kernel
  rcases t d hd with rfl | t
  · exact RoadKit.mvA hZ q
  · exact RoadKit.mv hZ q t
/-- WHAT COMES BACK, over the tables of the start Z: h the heap at the call, h' behind it -/
def Q (Z : State) (x : Addr) (A : Cell) (h : Heap) (v : Option Value) (h' : Heap) (L : List Loc) : Prop := v = none ∧ (∀ y ∈ L, y.base = x) ∧ RoadKit.Keep h h' [x] ∧ h'.size = h.size + 1 ∧ RoadKit.Exa Z h' x ST ∧ RoadKit.Fld Z h' x ST "value" "[B" (.ref h.size) ∧ RoadKit.Fld Z h' x ST "coder" "B" (.int 0) ∧
  (∃ V : Cell, RoadKit.Arr Z h' h.size V .byte ∧ V.vm = .none ∧ Z.vm.findClass "[B" = some V.cls ∧ V.slots.size = A.slots.size ∧ ∀ j, j < A.slots.size → V.slots[j]? = some (.int (lo8 (cv A j)))) ∧
  ∀ (O n d : String) (w : Value), RoadKit.Fld Z h x O n d w → RoadKit.slotOf Z O n d ≠ RoadKit.slotOf Z ST "value" "[B" → RoadKit.slotOf Z O n d ≠ RoadKit.slotOf Z ST "coder" "B" → RoadKit.Fld Z h' x O n d w
/-- **new String(chars) AT A CALL, IN THE ROAD'S FORM**: for specialBack behind newO: x the fresh String, b the char[] with the cell A -/
theorem back {p : Program} {l : Launch} {e : Env} {R : Room} {s : State} {args : Array Value} {below : List Frame} {len W : Nat} {Z : State} {a0 : Array Value} {h : Heap} (hZ : Z.Warmed39 s.vm) (hw : ∀ d ∈ words, d.before a0 Z = true) {kI : Nat} (wi : (Jvm.Cond.instantiable ST kI).before a0 Z = true)
    {x b : Addr} {A : Cell} {z : Int32} {v0 c0 : Value} (E : RoadKit.Exa Z h x ST) (V : RoadKit.Fld Z h x ST "value" "[B" v0) (C : RoadKit.Fld Z h x ST "coder" "B" c0) (K : RoadKit.Arr Z h b A .char) (hty : Typed .char A) (S : RoadKit.Sta Z h ST "COMPACT_STRINGS" "Z" (.int z)) (hz : ¬ z = 0)
    (l0 : 0 < A.slots.size) (l2 : A.slots.size ≤ 536870912) (hp : ∀ i, i < A.slots.size → ¬ 255 < cv A i) (hfr : 4 ≤ R.frames) (hlo : W + 65 ≤ R.locals) :
    Back l R p e below s args New1.yN len W (fun P a => a = #[.ref x, .ref b] ∧ P.U.heap = h ∧ P.cells + 1 ≤ R.cells ∧ P.slots + A.slots.size ≤ R.slots)
      (fun P _ v B => ∃ L, Q Z x A h v B.U.heap L ∧ B.locs = P.locs ++ L ∧ B.cells = P.cells + 1 ∧ B.slots = P.slots + A.slots.size) := by
  intro m meth c P g ig mk a X hg hsize hdg hW hn hp'
  obtain ⟨rfl, rfl, r1, r2⟩ := hp'
  have al : Z.vm.Alike P.U.vm := hZ.alike.trans X.warmed.alike
  obtain ⟨D, cfV, kV, iV, fV, hD, gV, stV, knV, obV, asV, slV⟩ := id V
  obtain ⟨D', cfC, kC, iC, fC, hD', gC, stC, -, -, asC, slC⟩ := id C
  cases hD.symm.trans hD'
  obtain ⟨D2, kD, e1, e2, e3, e4, e5⟩ := id E
  cases hD.symm.trans e1
  obtain ⟨c2, k2, i1, i2, i3, -⟩ := Cond.instantiable_spec wi
  cases e2.symm.trans i1
  cases e3.symm.trans i2
  obtain ⟨kU, u1, u2⟩ := al.2.2 _ _ e3
  have hB : Blank ST x D P.U := ⟨hD, ⟨knV, fun q hq => by rw [hq] at obV; cases obV⟩, by rw [al.findClass]; exact e2, kU, u1, by rw [u2]; exact i3, by rw [u2]; exact e5 i3⟩
  have F1 : Found ST "value" "[B" fV P.U := ⟨SBG.found_only al ⟨cfV, kV, iV, gV⟩, stV⟩
  have F2 : Found ST "coder" "B" fC P.U := ⟨SBG.found_only al ⟨cfC, kC, iC, gC⟩, stC⟩
  have hA : Ch b A P.U := ⟨⟨K.1, State.isArrayOf_alike al K.2.1, K.2.2, by omega⟩, hty⟩
  have hS : StaticIs P.U ST "COMPACT_STRINGS" "Z" (.int z) := by
    obtain ⟨cfS, iS, kS, fS, st, cS, t1, t2, t3, t4, t5, t6, t7⟩ := S
    exact StaticIs.there (s := { Z with heap := P.U.heap }) ⟨cfS, iS, kS, fS, st, cS, t1, t2, t3, t4, t5, (fun q => by rw [q] at t6; cases t6), t7⟩ al rfl
  obtain ⟨v, B, X', ⟨⟨hv, E', V', q1, q2, q3, q4, q5, q6, q7, q8, q9, q10, q11⟩, hl, hc, hs⟩, st⟩ := New1.pays x D fV fC b A z (tab_of (moved hZ hw)) hfr hlo m meth c P g ig mk _ X hg hsize hdg hW hn ⟨r1, r2, rfl, hB, F1, F2, hA, hS, hz, l0, l2, hp⟩
  have al' : Z.vm.Alike B.U.vm := hZ.alike.trans X'.warmed.alike
  have hsz : E'.slots.size = D.slots.size := by
    obtain ⟨-, -, -, kB, w1, w2, w3⟩ := q1
    obtain ⟨kB', y1, y2⟩ := al'.2.2 _ _ e3
    rw [q2.2.1] at w1
    cases w1.symm.trans y1
    rw [w3, e5 i3, y2]
  refine ⟨v, B, X', ⟨_, ⟨hv, ?_, ⟨by omega, fun y cy hy hn' => q10 y cy (by simpa using hn') hy, fun y cy hy => ?_⟩, q11, ⟨E', _, q1.1, by rw [q2.2.1]; exact e2, by rw [q2.2.1]; exact e3, by rw [q2.1]; exact obV, fun _ => by rw [hsz]; exact e5 i3⟩,
    ⟨E', cfV, kV, iV, fV, q1.1, gV, stV, by rw [q2.1]; exact knV, by rw [q2.1]; exact obV, by rw [q2.2.1]; exact asV, q3⟩, ⟨E', cfC, kC, iC, fC, q1.1, gC, stC, by rw [q2.1]; exact knV, by rw [q2.1]; exact obV, by rw [q2.2.1]; exact asC, q4⟩,
    ⟨V', ⟨q5.1, State.isArrayOf_alike al'.symm q5.2.1, q5.2.2.1⟩, q6, by rw [← al'.findClass]; exact q7, q8, fun j hj => by have := q9 j hj; rwa [Nat.zero_add] at this⟩, fun O n d w F n1 n2 => ?_⟩, hl, hc, hs⟩, st⟩
  · intro y hy
    simp only [List.mem_cons, List.not_mem_nil, or_false] at hy
    rcases hy with rfl | rfl <;> rfl
  · by_cases q : y = x
    · subst q
      cases hD.symm.trans hy
      exact ⟨E', q1.1, q2.2.1, q2.1, hsz⟩
    · exact ⟨cy, q10 y cy q hy, rfl, rfl, rfl⟩
  · obtain ⟨D3, cf, k, i, f, g1, g2, g3, g4, g5, g6, g7⟩ := F
    cases hD.symm.trans g1
    simp only [RoadKit.slotOf, g2, gV, gC, Option.map_some, Option.getD_some] at n1 n2
    exact ⟨E', cf, k, i, f, q1.1, g2, g3, by rw [q2.1]; exact g4, by rw [q2.1]; exact g5, by rw [q2.2.1]; exact g6, by rw [q2.2.2 f.slot (by simp [n1, n2])]; exact g7⟩
end StrChars.Road
namespace StrChars.Road
open Jvm Sem ClassFile Op Lib Jvm.Stand Jvm.Free Jvm.Free.XT
/-- WHAT COMES BACK, the byte[] as a list of values -/
def QA (Z : State) (x : Addr) (zn : Int32) (cs : List Int32) (h : Heap) (v : Option Value) (h' : Heap) (L : List Loc) : Prop := v = none ∧ (∀ y ∈ L, y.base = x) ∧ RoadKit.Keep h h' [x] ∧ h'.size = h.size + 1 ∧ RoadKit.Exa Z h' x ST ∧ RoadKit.Fld Z h' x ST "value" "[B" (.ref h.size) ∧ RoadKit.Fld Z h' x ST "coder" "B" (.int 0) ∧
  (∃ kb, Z.vm.findClass "[B" = some kb ∧ RoadKit.Arv Z h' h.size kb .byte zn (cs.map fun c => .int (lo8 c)) (.int 0)) ∧
  ∀ (O n d : String) (w : Value), RoadKit.Fld Z h x O n d w → RoadKit.slotOf Z O n d ≠ RoadKit.slotOf Z ST "value" "[B" → RoadKit.slotOf Z O n d ≠ RoadKit.slotOf Z ST "coder" "B" → RoadKit.Fld Z h' x O n d w
/-- **new String(chars) AT A CALL, THE ARRAYS AS LISTS**: the char[] at b holds cs, not empty, no char above 255 -/
theorem backArv {p : Program} {l : Launch} {e : Env} {R : Room} {s : State} {args : Array Value} {below : List Frame} {len W : Nat} {Z : State} {a0 : Array Value} {h : Heap} (hZ : Z.Warmed39 s.vm) (hw : ∀ d ∈ words, d.before a0 Z = true) {kI : Nat} (wi : (Jvm.Cond.instantiable ST kI).before a0 Z = true)
    {x b : Addr} {k : ClassId} {zn z : Int32} {cs : List Int32} {dv v0 c0 : Value} (E : RoadKit.Exa Z h x ST) (V : RoadKit.Fld Z h x ST "value" "[B" v0) (C : RoadKit.Fld Z h x ST "coder" "B" c0) (K : RoadKit.Arv Z h b k .char zn (cs.map Value.int) dv) (S : RoadKit.Sta Z h ST "COMPACT_STRINGS" "Z" (.int z)) (hz : ¬ z = 0)
    (hlen : zn.toNatClampNeg = cs.length) (h0 : 0 < cs.length) (hbig : cs.length ≤ 536870912) (hall : ∀ c ∈ cs, ¬ 255 < c) (hfr : 4 ≤ R.frames) (hlo : W + 65 ≤ R.locals) :
    Back l R p e below s args New1.yN len W (fun P a => a = #[.ref x, .ref b] ∧ P.U.heap = h ∧ P.cells + 1 ≤ R.cells ∧ P.slots + cs.length ≤ R.slots)
      (fun P _ v B => ∃ L, QA Z x zn cs h v B.U.heap L ∧ B.locs = P.locs ++ L ∧ B.cells = P.cells + 1 ∧ B.slots = P.slots + cs.length) := by
  obtain ⟨A, K1, K2, K3, K4, K5, K6⟩ := K
  have e : A.slots.size = cs.length := K3.trans hlen
  have hat : ∀ (i : Nat) (hi : i < cs.length), A.slots[i]? = some (.int cs[i]) := fun i hi => by rw [K5 i (by omega)]; simp [List.getD_eq_getElem?_getD, hi]
  have hcv : ∀ (i : Nat) (hi : i < cs.length), cv A i = cs[i] := fun i hi => by unfold cv; rw [hat i hi]
  have hty : Typed .char A := fun i v hv => by
    have hi : i < A.slots.size := (Array.getElem?_eq_some_iff.mp hv).1
    have q := K5 i hi
    rw [hv] at q
    rw [Option.some.inj q]
    exact K6 i hi
  refine Back.mono (back hZ hw wi E V C K1 hty S hz (by omega) (by omega) (fun i hi => by rw [hcv i (by omega)]; exact hall _ (List.getElem_mem _)) hfr hlo) (fun P a hp => ⟨hp.1, hp.2.1, hp.2.2.1, by rw [e]; exact hp.2.2.2⟩) (fun P a v B hp hq => ?_)
  obtain ⟨L, ⟨q1, q2, q3, q4, q5, q6, q7, ⟨V', v1, v2, v3, v4, v5⟩, q9⟩, hl, hc, hs⟩ := hq
  refine ⟨L, ⟨q1, q2, q3, q4, q5, q6, q7, ⟨V'.cls, v3, V', v1, rfl, by rw [v4, e, hlen], K4, fun i hi => ?_, fun i hi => ?_⟩, q9⟩, hl, hc, by rw [hs, e]⟩
  · have hi' : i < cs.length := by omega
    rw [v5 i (by omega), hcv i hi']; simp [List.getD_eq_getElem?_getD, hi']
  · have hi' : i < cs.length := by omega
    simp only [List.getD_eq_getElem?_getD, List.getElem?_map, List.getElem?_eq_getElem hi', Option.map_some, Option.getD_some]
    exact fits_lo8 _
end StrChars.Road
namespace StrChars.Road
open Jvm Sem ClassFile Op Lib Jvm.Stand Jvm.Free Jvm.Free.XT
/-- WHAT COMES BACK, in the writer's own shape -/
def QV (Z : State) (x : Addr) (N : Int32) (bs : List Int32) (h : Heap) (n0 : Nat) (v : Option Value) (h' : Heap) (L : List Loc) : Prop := v = none ∧ RoadKit.Fr n0 L ∧ RoadKit.Keep h h' [x] ∧ RoadKit.Exa Z h' x ST ∧ RoadKit.Fld Z h' x ST "coder" "B" (.int 0) ∧
  ∃ (t : Addr) (kb : ClassId), n0 ≤ t ∧ h.size ≤ t ∧ ¬ t = x ∧ RoadKit.Fld Z h' x ST "value" "[B" (.ref t) ∧ RoadKit.Arv Z h' t kb .byte N (bs.map Value.int) (.int 0)
/-- **new String(chars) AT A CALL, FOR THE WRITER**: a char[] of n known ints, each 0 to 255 -/
theorem backV {p : Program} {l : Launch} {e : Env} {R : Room} {s : State} {args : Array Value} {below : List Frame} {len W : Nat} {Z : State} {a0 : Array Value} {h : Heap} (hZ : Z.Warmed39 s.vm) (hw : ∀ d ∈ words, d.before a0 Z = true) {kI : Nat} (wi : (Jvm.Cond.instantiable ST kI).before a0 Z = true)
    {x b : Addr} {kC : ClassId} {cs bs : List Int32} {d v0 c0 : Value} {z N : Int32} {n n0 : Nat} (hx0 : n0 ≤ x) (hh0 : n0 ≤ h.size) (E : RoadKit.Exa Z h x ST) (V : RoadKit.Fld Z h x ST "value" "[B" v0) (C : RoadKit.Fld Z h x ST "coder" "B" c0) (K : RoadKit.Arv Z h b kC .char N (cs.map Value.int) d) (S : RoadKit.Sta Z h ST "COMPACT_STRINGS" "Z" (.int z)) (hz : ¬ z = 0)
    (hn : cs.length = n) (hN : N = Int32.ofNat n) (l0 : 0 < n) (l2 : n ≤ 4000) (hp : ∀ c ∈ cs, ¬ c < 0 ∧ ¬ (255 : Int32) < c) (hb : bs = cs.map (fun c => c.toInt8.toInt32)) (hfr : 4 ≤ R.frames) (hlo : W + 65 ≤ R.locals) :
    Back l R p e below s args (⟨"java/lang/String", "<init>", "([C)V"⟩ : MethodName) len W (fun P a => a = #[.ref x, .ref b] ∧ P.U.heap = h ∧ P.cells + 1 ≤ R.cells ∧ P.slots + n ≤ R.slots)
      (fun P _ v B => ∃ L, QV Z x N bs h n0 v B.U.heap L ∧ B.locs = P.locs ++ L ∧ B.cells = P.cells + 1 ∧ B.slots = P.slots + n) := by
  subst hn hN hb
  refine Back.mono (backArv hZ hw wi E V C K S hz (n32 (by omega)) l0 (by omega) (fun c hc => (hp c hc).2) hfr hlo) (fun P a hp => hp) (fun P a v B hp hq => ?_)
  obtain ⟨L, ⟨q1, q2, q3, q4, q5, q6, q7, ⟨kb, v1, v2⟩, q9⟩, hl, hc, hs⟩ := hq
  exact ⟨L, ⟨q1, fun y hy => by rw [q2 y hy]; exact hx0, q3, q5, q7, h.size, kb, hh0, Nat.le_refl _, Nat.ne_of_gt E.lt, q6, by rw [List.map_map]; exact v2⟩, hl, hc, hs⟩
end StrChars.Road
namespace StrChars
open Jvm Sem ClassFile Op Lib Jvm.Stand Jvm.Free.XT Jvm.Free.ALB Jvm.Free.JM Jvm.Free
open Jvm.Lib.Cold (StaticIs)
def hi8 (x : Int32) : Int32 := lo8 (x >>> ((8 : Int32) &&& 31))
/-- what StringUTF16.getChar makes of two bytes -/
def pairCh (u v : Int32) : Int32 := (((u &&& 255) <<< ((0 : Int32) &&& 31)) ||| ((v &&& 255) <<< ((8 : Int32) &&& 31))).toUInt32.toUInt16.toUInt32.toInt32
theorem lo8_and (x : Int32) : (lo8 x &&& 255).toBitVec.toNat = x.toBitVec.toNat % 256 := by
  have h : (lo8 x).toBitVec = (x.toBitVec.signExtend 8).signExtend 32 := by rw [lo8, Int8.toBitVec_toInt32, Int32.toBitVec_toInt8]
  rw [Int32.toBitVec_and, BitVec.toNat_and, h]
  have e : ((x.toBitVec.signExtend 8).signExtend 32).toNat % 256 = x.toBitVec.toNat % 256 := by
    rw [BitVec.toNat_signExtend]
    have hlt := x.toBitVec.isLt
    simp only [BitVec.toNat_setWidth, BitVec.toNat_signExtend]
    split <;> split <;> omega
  rw [← e]
  exact Nat.and_two_pow_sub_one_eq_mod _ 8
theorem pair_says {c : Int32} (h0 : ¬ c < 0) (h1 : ¬ 65535 < c) : pairCh (lo8 c) (hi8 c) = c := by
  rw [Int32.lt_iff_toInt_lt] at h0 h1
  have e0 : (0 : Int32).toInt = 0 := rfl
  have e1 : (65535 : Int32).toInt = 65535 := rfl
  have hc : c.toInt = c.toBitVec.toNat := by
    have := c.toBitVec.isLt
    have e : c.toInt = c.toBitVec.toInt := rfl
    rw [e] at h0 h1
    rw [e]
    rw [BitVec.toInt_eq_toNat_cond] at h0 h1 ⊢
    split at h0 <;> split <;> omega
  have hn : c.toBitVec.toNat < 65536 := by omega
  have a1 := lo8_and c
  have a2 : (hi8 c &&& 255).toBitVec.toNat = c.toBitVec.toNat / 256 := by
    rw [hi8, lo8_and]
    have e : ((8 : Int32) &&& 31) = 8 := by decide
    rw [e, Int32.toBitVec_shiftRight]
    have e2 : ((8 : Int32).toBitVec.smod 32) = 8#32 := by decide
    rw [e2, BitVec.sshiftRight_eq', BitVec.toNat_sshiftRight_of_msb_false (by rw [BitVec.msb_eq_false_iff_two_mul_lt]; omega)]
    show c.toBitVec.toNat >>> 8 % 256 = _
    rw [Nat.shiftRight_eq_div_pow]
    omega
  unfold pairCh
  apply Int32.toBitVec_inj.mp
  apply BitVec.eq_of_toNat_eq
  have f0 : ((0 : Int32) &&& 31) = 0 := by decide
  have f8 : ((8 : Int32) &&& 31) = 8 := by decide
  rw [f0, f8]
  have g : (((lo8 c &&& 255) <<< (0 : Int32)) ||| ((hi8 c &&& 255) <<< (8 : Int32))).toBitVec.toNat = c.toBitVec.toNat := by
    rw [Int32.toBitVec_or, Int32.toBitVec_shiftLeft, Int32.toBitVec_shiftLeft]
    have s0 : ((0 : Int32).toBitVec.smod 32) = 0#32 := by decide
    have s8 : ((8 : Int32).toBitVec.smod 32) = 8#32 := by decide
    rw [s0, s8, BitVec.toNat_or]
    simp only [BitVec.shiftLeft_eq', BitVec.toNat_shiftLeft, a1, a2]
    show (c.toBitVec.toNat % 256) <<< 0 % 2 ^ 32 ||| (c.toBitVec.toNat / 256) <<< 8 % 2 ^ 32 = _
    rw [Nat.shiftLeft_zero, Nat.mod_eq_of_lt (show c.toBitVec.toNat % 256 < 2 ^ 32 by omega), Nat.mod_eq_of_lt (show (c.toBitVec.toNat / 256) <<< 8 < 2 ^ 32 by rw [Nat.shiftLeft_eq]; omega), Nat.or_comm, ← Nat.shiftLeft_add_eq_or_of_lt (by omega), Nat.shiftLeft_eq]
    omega
  show BitVec.toNat (((((lo8 c &&& 255) <<< (0 : Int32)) ||| ((hi8 c &&& 255) <<< (8 : Int32))).toBitVec.setWidth 16).setWidth 32) = _
  rw [BitVec.toNat_setWidth, BitVec.toNat_setWidth, g]
  omega
end StrChars
namespace StrChars
open Jvm Sem ClassFile Op Lib Jvm.Stand Jvm.Free.XT Jvm.Free.ALB Jvm.Free.JM Jvm.Free
open Jvm.Lib.Cold (StaticIs)
/-- the array's cell V codes the n chars f 0 .. f (n - 1) by the coder cd, as the JDK does: coder 1 just where some char is above 255 -/
def Cod (cd : Int32) (n : Nat) (f : Nat → Int32) (V : Cell) : Prop := (cd = 0 ∧ V.slots.size = n ∧ ∀ j, j < n → V.slots[j]? = some (.int (lo8 (f j))) ∧ ¬ 255 < f j) ∨ (cd = 1 ∧ V.slots.size = 2 * n ∧ (∀ j, j < n → V.slots[2 * j]? = some (.int (lo8 (f j))) ∧ V.slots[2 * j + 1]? = some (.int (hi8 (f j)))) ∧ ∃ j, j < n ∧ 255 < f j)
/-- **x is a String of the n chars f 0 .. f (n - 1)**, Latin-1 or UTF-16; its array at t has the cell V -/
def Txt (x t : Addr) (V : Cell) (cd : Int32) (n : Nat) (f : Nat → Int32) (U : State) : Prop := Exact "java/lang/String" x U ∧ Has x "java/lang/String" "value" "[B" (.ref t) U ∧ Has x "java/lang/String" "coder" "B" (.int cd) U ∧ XT.Arr .byte t V U ∧ Cod cd n f V ∧ ∀ j, j < n → ¬ f j < 0 ∧ ¬ 65535 < f j
theorem Txt.mv {x t : Addr} {V : Cell} {cd : Int32} {n : Nat} {f : Nat → Int32} {U U' : State} (h : Txt x t V cd n f U) (hal : U.vm.Alike U'.vm) (hh : U'.heap = U.heap) : Txt x t V cd n f U' := ⟨h.1.mv hal hh, h.2.1.mv hal hh, h.2.2.1.mv hal hh, h.2.2.2.1.mv hal hh, h.2.2.2.2⟩
end StrChars
namespace StrChars.Road
open Jvm Sem ClassFile Op Lib Jvm.Stand Jvm.Free Jvm.Free.XT
open Jvm.Lib.Cold (StaticIs)
theorem consq {a : Array Value} {s : State} {c : Jvm.Cond} {L : List Jvm.Cond} (h0 : c.before a s = true) (h : ∀ w ∈ L, w.before a s = true) : ∀ w ∈ c :: L, w.before a s = true := fun w hw => (List.mem_cons.mp hw).elim (fun e => e ▸ h0) (h w)
/-- the bytes of the chars cs, low before high -/
def wideBytes : List Int32 → List Value
  | [] => []
  | c :: cs => .int (lo8 c) :: .int (hi8 c) :: wideBytes cs
theorem wide_lo (d : Value) : ∀ (cs : List Int32) (j : Nat), j < cs.length → (wideBytes cs).getD (2 * j) d = .int (lo8 (cs.getD j 0))
  | [], j, h => absurd h (Nat.not_lt_zero j)
  | c :: cs, 0, _ => rfl
  | c :: cs, j + 1, h => by
    have q := wide_lo d cs j (by simpa using h)
    rw [show 2 * (j + 1) = 2 * j + 1 + 1 from by omega]
    simpa [wideBytes] using q
theorem wide_hi (d : Value) : ∀ (cs : List Int32) (j : Nat), j < cs.length → (wideBytes cs).getD (2 * j + 1) d = .int (hi8 (cs.getD j 0))
  | [], j, h => absurd h (Nat.not_lt_zero j)
  | c :: cs, 0, _ => rfl
  | c :: cs, j + 1, h => by
    have q := wide_hi d cs j (by simpa using h)
    rw [show 2 * (j + 1) + 1 = 2 * j + 1 + 1 + 1 from by omega]
    simpa [wideBytes] using q
theorem low_at (d : Value) (cs : List Int32) (j : Nat) (h : j < cs.length) : (cs.map fun c => Value.int (lo8 c)).getD j d = .int (lo8 (cs.getD j 0)) := by
  simp [List.getD_eq_getElem?_getD, h]
/-- an array of N2 bytes vs codes the chars cs by the coder cd -/
def CodA (cs : List Int32) (cd N2 : Int32) (vs : List Value) : Prop := (cd = 0 ∧ N2 = Int32.ofNat cs.length ∧ vs = (cs.map fun c => Value.int (lo8 c)) ∧ ∀ c ∈ cs, ¬ 255 < c) ∨ (cd = 1 ∧ N2 = Int32.ofNat (2 * cs.length) ∧ vs = wideBytes cs ∧ ∃ c ∈ cs, 255 < c)
theorem CodA.cod {cs : List Int32} {cd N2 : Int32} {vs : List Value} {V : Cell} (h : CodA cs cd N2 vs) (hn : 2 * cs.length < 2 ^ 31) (hs : V.slots.size = N2.toNatClampNeg) (hv : RoadKit.Has V vs (.int 0)) : Cod cd cs.length (fun j => cs.getD j 0) V := by
  rcases h with ⟨rfl, rfl, rfl, h⟩ | ⟨rfl, rfl, rfl, c, hc, hw⟩
  · rw [n32 (by omega)] at hs
    exact Or.inl ⟨rfl, hs, fun j hj => ⟨by rw [hv j (by omega), low_at _ _ _ hj], by
      have e : cs.getD j 0 = cs[j] := by simp [List.getD_eq_getElem?_getD, hj]
      show ¬ 255 < cs.getD j 0
      rw [e]; exact h _ (List.getElem_mem _)⟩⟩
  · rw [n32 (by omega)] at hs
    obtain ⟨j, hj, rfl⟩ := List.getElem_of_mem hc
    exact Or.inr ⟨rfl, hs, fun j hj => ⟨by rw [hv _ (by omega), wide_lo _ _ _ hj], by rw [hv _ (by omega), wide_hi _ _ _ hj]⟩, j, hj, by
      have e : cs.getD j 0 = cs[j] := by simp [List.getD_eq_getElem?_getD, hj]
      show 255 < cs.getD j 0
      rw [e]; exact hw⟩
/-- an object of exactly java/lang/String, its two fields found: as the laws ask it -/
theorem strObj {Z U : State} {a0 : Array Value} {kI : Nat} (wi : (Jvm.Cond.instantiable ST kI).before a0 Z = true) (al : Z.vm.Alike U.vm) {x : Addr} {v0 c0 : Value} (E : RoadKit.Exa Z U.heap x ST) (V : RoadKit.Fld Z U.heap x ST "value" "[B" v0) (C : RoadKit.Fld Z U.heap x ST "coder" "B" c0) :
    ∃ (D : Cell) (fV fC : Field), Blank ST x D U ∧ Found ST "value" "[B" fV U ∧ Found ST "coder" "B" fC U ∧ D.slots[fV.slot]? = some v0 ∧ D.slots[fC.slot]? = some c0 ∧ RoadKit.slotOf Z ST "value" "[B" = fV.slot ∧ RoadKit.slotOf Z ST "coder" "B" = fC.slot := by
  obtain ⟨D, cfV, kV, iV, fV, hD, gV, stV, knV, obV, asV, slV⟩ := V
  obtain ⟨D', cfC, kC, iC, fC, hD', gC, stC, -, -, asC, slC⟩ := C
  cases hD.symm.trans hD'
  obtain ⟨D2, kD, e1, e2, e3, e4, e5⟩ := E
  cases hD.symm.trans e1
  obtain ⟨c2, k2, i1, i2, i3, -⟩ := Cond.instantiable_spec wi
  cases e2.symm.trans i1
  cases e3.symm.trans i2
  obtain ⟨kU, u1, u2⟩ := al.2.2 _ _ e3
  exact ⟨D, fV, fC, ⟨hD, ⟨knV, fun q hq => by rw [hq] at obV; cases obV⟩, by rw [al.findClass]; exact e2, kU, u1, by rw [u2]; exact i3, by rw [u2]; exact e5 i3⟩, ⟨SBG.found_only al ⟨cfV, kV, iV, gV⟩, stV⟩, ⟨SBG.found_only al ⟨cfC, kC, iC, gC⟩, stC⟩, slV, slC, by simp [RoadKit.slotOf, gV], by simp [RoadKit.slotOf, gC]⟩
theorem sta_is {Z U : State} (al : Z.vm.Alike U.vm) {C n d : String} {v : Value} (S : RoadKit.Sta Z U.heap C n d v) : StaticIs U C n d v := by
  obtain ⟨cfS, iS, kS, fS, st, cS, t1, t2, t3, t4, t5, t6, t7⟩ := S
  exact StaticIs.there (s := { Z with heap := U.heap }) ⟨cfS, iS, kS, fS, st, cS, t1, t2, t3, t4, t5, (fun q => by rw [q] at t6; cases t6), t7⟩ al rfl
end StrChars.Road
namespace StrChars
open Jvm Sem ClassFile Op Lib Jvm.Stand Jvm.Free.XT Jvm.Free.ALB Jvm.Free.JM Jvm.Free
open Jvm.Lib.Cold (StaticIs)
/-- what place i of a byte[]'s cell holds -/
def yv (A : Cell) (i : Nat) : Int32 := match A.slots[i]? with | some (.int x) => x | _ => 0
theorem yv_get {a : Addr} {A : Cell} {U : State} (h : XT.Arr .byte a A U) (ht : Typed .byte A) {i : Nat} (hi : i < A.slots.size) : A.slots[i]? = some (.int (yv A i)) := by
  have e := Array.getElem?_eq_getElem hi
  have f := ht i _ e
  unfold yv; rw [e]
  generalize A.slots[i] = v at f
  cases v <;> simp [fits] at f ⊢
/-- the two arrays are equal, place for place -/
def EqC (A B : Cell) : Prop := A.slots.size = B.slots.size ∧ ∀ i, i < A.slots.size → yv A i = yv B i
/-- a boolean that says whether p -/
def Says01 (q : Prop) (r : Option Value) (s u : State) : Prop := ∃ v : Int32, r = some (.int v) ∧ u.heap = s.heap ∧ ((v = 1 ∧ q) ∨ (v = 0 ∧ ¬ q))
theorem Says01.mv {q : Prop} : ∀ r (U U' V V' : State), U'.heap = U.heap → V.vm.Alike V'.vm → V'.heap = V.heap → Says01 q r U V → Says01 q r U' V' :=
  fun r U U' V V' h1 _ h2 ⟨v, a, b, c⟩ => ⟨v, a, by rw [h1, h2]; exact b, c⟩
namespace LEq
def yN : MethodName := ⟨"java/lang/StringLatin1", "equals", "([B[B)Z"⟩
abbrev yB : ByteArray := jdk_43_method_13_code
theorem d0 : decode yB 0 = .ok (.aload_n 0, 1) := by decide +kernel
theorem d1 : decode yB 1 = .ok (.arraylength, 1) := by decide +kernel
theorem d2 : decode yB 2 = .ok (.aload_n 1, 1) := by decide +kernel
theorem d3 : decode yB 3 = .ok (.arraylength, 1) := by decide +kernel
theorem d4 : decode yB 4 = .ok (.if_icmp (.ne) 30, 3) := by decide +kernel
theorem d7 : decode yB 7 = .ok (.iconst 0, 1) := by decide +kernel
theorem d8 : decode yB 8 = .ok (.istore_n 2, 1) := by decide +kernel
theorem d9 : decode yB 9 = .ok (.iload_n 2, 1) := by decide +kernel
theorem d10 : decode yB 10 = .ok (.aload_n 0, 1) := by decide +kernel
theorem d11 : decode yB 11 = .ok (.arraylength, 1) := by decide +kernel
theorem d12 : decode yB 12 = .ok (.if_icmp (.ge) 20, 3) := by decide +kernel
theorem d15 : decode yB 15 = .ok (.aload_n 0, 1) := by decide +kernel
theorem d16 : decode yB 16 = .ok (.iload_n 2, 1) := by decide +kernel
theorem d17 : decode yB 17 = .ok (.baload, 1) := by decide +kernel
theorem d18 : decode yB 18 = .ok (.aload_n 1, 1) := by decide +kernel
theorem d19 : decode yB 19 = .ok (.iload_n 2, 1) := by decide +kernel
theorem d20 : decode yB 20 = .ok (.baload, 1) := by decide +kernel
theorem d21 : decode yB 21 = .ok (.if_icmp (.eq) 5, 3) := by decide +kernel
theorem d24 : decode yB 24 = .ok (.iconst 0, 1) := by decide +kernel
theorem d25 : decode yB 25 = .ok (.ireturn, 1) := by decide +kernel
theorem d26 : decode yB 26 = .ok (.iinc 2 1, 3) := by decide +kernel
theorem d29 : decode yB 29 = .ok (.goto (-20), 3) := by decide +kernel
theorem d32 : decode yB 32 = .ok (.iconst 1, 1) := by decide +kernel
theorem d33 : decode yB 33 = .ok (.ireturn, 1) := by decide +kernel
theorem d34 : decode yB 34 = .ok (.iconst 0, 1) := by decide +kernel
theorem d35 : decode yB 35 = .ok (.ireturn, 1) := by decide +kernel
def site : List Cond := []
def tab : Cond := tabOf yN yB 3 (some .boolean) site
def P (a : Addr) (A : Cell) (b : Addr) (B : Cell) (args : Array Value) (s : State) : Prop := args = #[.ref a, .ref b] ∧ XT.Arr .byte a A s ∧ Typed .byte A ∧ XT.Arr .byte b B s ∧ Typed .byte B
/-- whether two byte[] are equal, place for place -/
theorem law (l : Launch) (a : Addr) (A : Cell) (b : Addr) (B : Cell) : Law l yN 2 2 0 0 yB 3 (some .boolean) site (P a A b B) (Says01 (EqC A B)) [] 0 0 := by
  refine Law.of_walk (plainFor_of_name (by decide +kernel)) (by decide +kernel) (by decide +kernel) (by decide) (fun _ _ h => by rw [h.1]; rfl) (fun _ U U' hal hh h => ⟨h.1, h.2.1.mv hal hh, h.2.2.1, h.2.2.2.1.mv hal hh, h.2.2.2.2⟩) (fun r U U' V V' h1 hal h2 h => Says01.mv r U U' V V' h1 hal h2 h) ?_
  intro p e s m args below meth c s₁ X0 hexec hbytes hml hret hlk hnm hown hh0 W hP
  obtain ⟨rfl, hA, tA, hB, tB⟩ := hP
  have a31 := hA.2.2.2
  have b31 := hB.2.2.2
  have hA0 := hA.mv X0.warmed.alike hh0
  have hB0 := hB.mv X0.warmed.alike hh0
  have c1 : Steps p.tables e below (s₁.setTop (entryFrame m #[.ref a, .ref b] 3)) (s₁.setTop (mkF m 0 #[.val (.ref a), .val (.ref b), .unset] [])) := entry rfl
  have c2 : Steps p.tables e below (s₁.setTop (entryFrame m #[.ref a, .ref b] 3)) (s₁.setTop (mkF m 4 #[.val (.ref a), .val (.ref b), .unset] [.int (Int32.ofNat B.slots.size), .int (Int32.ofNat A.slots.size)])) := c1.trans (by
    refine XS.aloadN X0.here hexec rfl (hb hbytes d0) rfl rfl ?_
    refine X0.alen hexec hA0 rfl rfl (hb hbytes d1) ?_
    refine XS.aloadN X0.here hexec rfl (hb hbytes d2) rfl rfl ?_
    refine X0.alen hexec hB0 rfl rfl (hb hbytes d3) ?_
    exact Steps.refl _)
  by_cases hs : A.slots.size = B.slots.size
  · have c3 : Steps p.tables e below (s₁.setTop (entryFrame m #[.ref a, .ref b] 3)) (s₁.setTop (mkF m 9 #[.val (.ref a), .val (.ref b), .val (.int 0)] [])) := c2.trans (by
      refine XS.icmpNo X0.here hexec rfl (hb hbytes d4) rfl (ii_ne_f (by rw [hs])) ?_
      refine iconstV X0.here hexec rfl 0 (hb hbytes d7) (by decide) ?_
      refine XS.istoreN X0.here hexec rfl (hb hbytes d8) rfl rfl ?_
      exact Steps.refl _)
    have loop : ∀ (r i : Nat), i + r = A.slots.size → (∀ j, j < i → yv A j = yv B j) → Steps p.tables e below (s₁.setTop (entryFrame m #[.ref a, .ref b] 3)) (s₁.setTop (mkF m 9 #[.val (.ref a), .val (.ref b), .val (.int (Int32.ofNat i))] [])) → ∃ (pc : Nat) (Ls : Array Slot) (v : Int32), (pc = 25 ∨ pc = 33) ∧ ((v = 1 ∧ EqC A B) ∨ (v = 0 ∧ ¬ EqC A B)) ∧ Steps p.tables e below (s₁.setTop (entryFrame m #[.ref a, .ref b] 3)) (s₁.setTop (mkF m pc Ls [.int v])) := by
      intro r
      induction r with
      | zero =>
        intro i hi he cl
        exact ⟨33, _, 1, Or.inr rfl, Or.inl ⟨rfl, hs, fun j hj => he j (by omega)⟩, cl.trans (by
          refine XS.iloadN X0.here hexec rfl (hb hbytes d9) rfl ?_
          refine XS.aloadN X0.here hexec rfl (hb hbytes d10) rfl rfl ?_
          refine X0.alen hexec hA0 rfl rfl (hb hbytes d11) ?_
          refine XS.icmpYes X0.here hexec rfl (pc0 := 12) rfl (hb hbytes d12) rfl (ii_ge_t (nlt32 (by omega) (by omega))) (by decide) rfl ?_
          refine iconstV X0.here hexec rfl 1 (hb hbytes d32) (by decide) ?_
          exact Steps.refl _)⟩
      | succ r ih =>
        intro i hi he cl
        have c4 : Steps p.tables e below (s₁.setTop (entryFrame m #[.ref a, .ref b] 3)) (s₁.setTop (mkF m 21 #[.val (.ref a), .val (.ref b), .val (.int (Int32.ofNat i))] [.int (yv B i), .int (yv A i)])) := cl.trans (by
          refine XS.iloadN X0.here hexec rfl (hb hbytes d9) rfl ?_
          refine XS.aloadN X0.here hexec rfl (hb hbytes d10) rfl rfl ?_
          refine X0.alen hexec hA0 rfl rfl (hb hbytes d11) ?_
          refine XS.icmpNo X0.here hexec rfl (hb hbytes d12) rfl (ii_ge_f (lt32 (by omega) (by omega))) ?_
          refine XS.aloadN X0.here hexec rfl (hb hbytes d15) rfl rfl ?_
          refine XS.iloadN X0.here hexec rfl (hb hbytes d16) rfl ?_
          refine X0.aget hexec hA0 rfl (yv_get hA tA (i := i) (by omega)) rfl rfl (hb hbytes d17) ?_
          refine XS.aloadN X0.here hexec rfl (hb hbytes d18) rfl rfl ?_
          refine XS.iloadN X0.here hexec rfl (hb hbytes d19) rfl ?_
          refine X0.aget hexec hB0 rfl (yv_get hB tB (i := i) (by omega)) rfl rfl (hb hbytes d20) ?_
          exact Steps.refl _)
        by_cases hv : yv A i = yv B i
        · have c5 : Steps p.tables e below (s₁.setTop (entryFrame m #[.ref a, .ref b] 3)) (s₁.setTop (mkF m 9 #[.val (.ref a), .val (.ref b), .val (.int (Int32.ofNat i + 1))] [])) := c4.trans (by
            refine XS.icmpYes X0.here hexec rfl (pc0 := 21) rfl (hb hbytes d21) rfl (ii_eq_t hv) (by decide) rfl ?_
            refine iincV X0.here hexec rfl 1 (hb hbytes d26) (by decide) rfl rfl ?_
            refine XS.goto X0.here hexec rfl (pc0 := 29) rfl (hb hbytes d29) (by decide) rfl ?_
            exact Steps.refl _)
          rw [succ32] at c5
          exact ih (i + 1) (by omega) (fun j hj => by
            by_cases e : j = i
            · rw [e]; exact hv
            · exact he j (by omega)) c5
        · exact ⟨25, _, 0, Or.inl rfl, Or.inr ⟨rfl, fun q => hv (q.2 i (by omega))⟩, c4.trans (by
            refine XS.icmpNo X0.here hexec rfl (hb hbytes d21) rfl (ii_eq_f hv) ?_
            refine iconstV X0.here hexec rfl 0 (hb hbytes d24) (by decide) ?_
            exact Steps.refl _)⟩
    obtain ⟨pc, Ls, v, hpc, hv, cz⟩ := loop A.slots.size 0 (by omega) (fun j hj => absurd hj (Nat.not_lt_zero j)) c3
    have nv : narrow .boolean (.int v) = .int v := by rcases hv with ⟨rfl, -⟩ | ⟨rfl, -⟩ <;> rfl
    rcases hpc with rfl | rfl
    · exact ⟨s₁, some (.int v), _, _, _, X0, rfl, rfl, rfl, (fun h => by cases h), ⟨v, rfl, hh0, hv⟩, fun fs hl => cz.trans (X0.ireturnOut hexec hret nv (Or.inr (Or.inl rfl)) (hb hbytes d25) hl)⟩
    · exact ⟨s₁, some (.int v), _, _, _, X0, rfl, rfl, rfl, (fun h => by cases h), ⟨v, rfl, hh0, hv⟩, fun fs hl => cz.trans (X0.ireturnOut hexec hret nv (Or.inr (Or.inl rfl)) (hb hbytes d33) hl)⟩
  · have c3 : Steps p.tables e below (s₁.setTop (entryFrame m #[.ref a, .ref b] 3)) (s₁.setTop (mkF m 35 #[.val (.ref a), .val (.ref b), .unset] [.int 0])) := c2.trans (by
      refine XS.icmpYes X0.here hexec rfl (pc0 := 4) rfl (hb hbytes d4) rfl (ii_ne_t (ne32 a31 b31 hs)) (by decide) rfl ?_
      refine iconstV X0.here hexec rfl 0 (hb hbytes d34) (by decide) ?_
      exact Steps.refl _)
    exact ⟨s₁, some (.int 0), _, _, _, X0, rfl, rfl, rfl, (fun h => by cases h), ⟨0, rfl, hh0, Or.inr ⟨rfl, fun q => hs q.1⟩⟩, fun fs hl => c3.trans (X0.ireturnOut hexec hret rfl (Or.inr (Or.inl rfl)) (hb hbytes d35) hl)⟩
end LEq
theorem Cod.ty {cd : Int32} {n : Nat} {f : Nat → Int32} {V : Cell} (h : Cod cd n f V) : Typed .byte V := fun i v hv => by
  have hi : i < V.slots.size := (Array.getElem?_eq_some_iff.mp hv).1
  rcases h with ⟨-, k1, k2⟩ | ⟨-, k1, k2, -⟩
  · rw [(k2 i (by omega)).1] at hv; cases hv; exact fits_lo8 _
  · rcases Nat.mod_two_eq_zero_or_one i with e | e
    · obtain ⟨j, rfl⟩ : ∃ j, i = 2 * j := ⟨i / 2, by omega⟩
      rw [(k2 j (by omega)).1] at hv; cases hv; exact fits_lo8 _
    · obtain ⟨j, rfl⟩ : ∃ j, i = 2 * j + 1 := ⟨i / 2, by omega⟩
      rw [(k2 j (by omega)).2] at hv; cases hv; exact fits_lo8 _
/-- the same text -/
def SameT (n : Nat) (f : Nat → Int32) (k : Nat) (g : Nat → Int32) : Prop := n = k ∧ ∀ j, j < n → f j = g j
theorem lo8_inj {x y : Int32} (h0 : ¬ x < 0) (h1 : ¬ 255 < x) (k0 : ¬ y < 0) (k1 : ¬ 255 < y) (h : lo8 x = lo8 y) : x = y := by
  rw [← lo8_mask h0 h1, ← lo8_mask k0 k1, h]
/-- arrays coded by one coder are equal just where the texts are -/
theorem Cod.eqv {cd : Int32} {n k : Nat} {f g : Nat → Int32} {V V' : Cell} (h : Cod cd n f V) (h' : Cod cd k g V') (hf : ∀ j, j < n → ¬ f j < 0 ∧ ¬ 65535 < f j) (hg : ∀ j, j < k → ¬ g j < 0 ∧ ¬ 65535 < g j) : EqC V V' ↔ SameT n f k g := by
  have yvv : ∀ {W : Cell} {i : Nat} {x : Int32}, W.slots[i]? = some (.int x) → yv W i = x := fun q => by unfold yv; rw [q]
  rcases h with ⟨rfl, k1, k2⟩ | ⟨rfl, k1, k2, -⟩
  · rcases h' with ⟨-, m1, m2⟩ | ⟨e, -⟩
    · constructor
      · rintro ⟨e1, e2⟩
        refine ⟨by omega, fun j hj => ?_⟩
        have q := e2 j (by omega)
        rw [yvv (k2 j hj).1, yvv (m2 j (by omega)).1] at q
        exact lo8_inj (hf j hj).1 (k2 j hj).2 (hg j (by omega)).1 (m2 j (by omega)).2 q
      · rintro ⟨rfl, e2⟩
        refine ⟨by omega, fun j hj => ?_⟩
        rw [yvv (k2 j (by omega)).1, yvv (m2 j (by omega)).1, e2 j (by omega)]
    · exact absurd e (by decide)
  · rcases h' with ⟨e, -⟩ | ⟨-, m1, m2, -⟩
    · exact absurd e (by decide)
    · constructor
      · rintro ⟨e1, e2⟩
        refine ⟨by omega, fun j hj => ?_⟩
        have q1 := e2 (2 * j) (by omega)
        have q2 := e2 (2 * j + 1) (by omega)
        rw [yvv (k2 j hj).1, yvv (m2 j (by omega)).1] at q1
        rw [yvv (k2 j hj).2, yvv (m2 j (by omega)).2] at q2
        rw [← pair_says (hf j hj).1 (hf j hj).2, ← pair_says (hg j (by omega)).1 (hg j (by omega)).2, q1, q2]
      · rintro ⟨rfl, e2⟩
        refine ⟨by omega, fun i hi => ?_⟩
        rcases Nat.mod_two_eq_zero_or_one i with e | e
        · obtain ⟨j, rfl⟩ : ∃ j, i = 2 * j := ⟨i / 2, by omega⟩
          rw [yvv (k2 j (by omega)).1, yvv (m2 j (by omega)).1, e2 j (by omega)]
        · obtain ⟨j, rfl⟩ : ∃ j, i = 2 * j + 1 := ⟨i / 2, by omega⟩
          rw [yvv (k2 j (by omega)).2, yvv (m2 j (by omega)).2, e2 j (by omega)]
/-- two codings differ: so do the texts -/
theorem Cod.dif {cd cd' : Int32} {n k : Nat} {f g : Nat → Int32} {V V' : Cell} (h : Cod cd n f V) (h' : Cod cd' k g V') (hne : ¬ cd = cd') : ¬ SameT n f k g := by
  rintro ⟨rfl, e⟩
  rcases h with ⟨rfl, -, k2⟩ | ⟨rfl, -, -, j, hj, hw⟩
  · rcases h' with ⟨rfl, -⟩ | ⟨-, -, -, j, hj, hw⟩
    · exact hne rfl
    · exact (k2 j hj).2 (by rw [e j hj]; exact hw)
  · rcases h' with ⟨-, -, m2⟩ | ⟨rfl, -⟩
    · exact (m2 j hj).2 (by rw [← e j hj]; exact hw)
    · exact hne rfl
/-- an object of exactly C is an instance of C -/
theorem cinst {p : Program} {l : Launch} {e : Env} {R : Room} {s : State} {m : MethodId} {args : Array Value} {below : List Frame} {meth : Method} {c : Code} {T : State} {locs : List Loc} {cells slots : Nat} (X : Stand p l e R s m args below meth c T locs cells slots) (hexec : p.tables.exec = Jvm.exec) {own C : String} {index : Nat} (hown : s.vm.findClass own = some m.cls) (hlink : (Cond.classLink own index C).before args s = true) {a : Addr} (hE : Exact C a T)
    {g : JFrame} (hg : g.method = m) {rest : List Value} (hstack : g.stack = .ref a :: rest) (hdg : decode c.code g.pc = .ok (.instanceof index, 3)) :
    ∃ T', Stand p l e R s m args below meth c T' locs cells slots ∧ T'.heap = T.heap ∧ ∀ target, Steps p.tables e below (T'.setTop { g with pc := g.pc + 3, stack := .int 1 :: rest }) target → Steps p.tables e below (T.setTop g) target := by
  obtain ⟨cB, h1, D, h2, h3, h4⟩ := hE
  have h1' : s.vm.findClass C = some cB := by rw [← X.warmed.alike.findClass]; exact h1
  obtain ⟨vm', X', st⟩ := X.instanceofYes hexec hown hlink h2 h4 h1' (by rw [h3]; exact Jvm.Free.SB.assignable_self _ _) hg hstack hdg
  exact ⟨_, X', rfl, st⟩
theorem cself {p : Program} {l : Launch} {e : Env} {R : Room} {s : State} {m : MethodId} {args : Array Value} {below : List Frame} {meth : Method} {c : Code} {T : State} {locs : List Loc} {cells slots : Nat} (X : Stand p l e R s m args below meth c T locs cells slots) (hexec : p.tables.exec = Jvm.exec) {own C : String} {index : Nat} (hown : s.vm.findClass own = some m.cls) (hlink : (Cond.classLink own index C).before args s = true) {a : Addr} (hE : Exact C a T)
    {g : JFrame} (hg : g.method = m) {rest : List Value} (hstack : g.stack = .ref a :: rest) (hdg : decode c.code g.pc = .ok (.checkcast index, 3)) :
    ∃ T', Stand p l e R s m args below meth c T' locs cells slots ∧ T'.heap = T.heap ∧ ∀ target, Steps p.tables e below (T'.setTop { g with pc := g.pc + 3, stack := .ref a :: rest }) target → Steps p.tables e below (T.setTop g) target := by
  obtain ⟨cB, h1, D, h2, h3, h4⟩ := hE
  have h1' : s.vm.findClass C = some cB := by rw [← X.warmed.alike.findClass]; exact h1
  obtain ⟨vm', X', st⟩ := X.checkcastYes hexec hown hlink h2 h4 h1' (by rw [h3]; exact Jvm.Free.SB.assignable_self _ _) hg hstack hdg
  exact ⟨_, X', rfl, fun t h => st t (by rw [← hstack] at h; exact h)⟩
namespace SEq
def yN : MethodName := ⟨"java/lang/String", "equals", "(Ljava/lang/Object;)Z"⟩
abbrev yB : ByteArray := jdk_42_method_66_code
theorem d0 : decode yB 0 = .ok (.aload_n 0, 1) := by decide +kernel
theorem d1 : decode yB 1 = .ok (.aload_n 1, 1) := by decide +kernel
theorem d2 : decode yB 2 = .ok (.if_acmp (.ne) 5, 3) := by decide +kernel
theorem d5 : decode yB 5 = .ok (.iconst 1, 1) := by decide +kernel
theorem d6 : decode yB 6 = .ok (.ireturn, 1) := by decide +kernel
theorem d7 : decode yB 7 = .ok (.aload_n 1, 1) := by decide +kernel
theorem d8 : decode yB 8 = .ok (.instanceof 10, 3) := by decide +kernel
theorem d11 : decode yB 11 = .ok (.ifCond (.eq) 43, 3) := by decide +kernel
theorem d14 : decode yB 14 = .ok (.aload_n 1, 1) := by decide +kernel
theorem d15 : decode yB 15 = .ok (.checkcast 10, 3) := by decide +kernel
theorem d18 : decode yB 18 = .ok (.astore_n 2, 1) := by decide +kernel
theorem d19 : decode yB 19 = .ok (.getstatic 38, 3) := by decide +kernel
theorem d22 : decode yB 22 = .ok (.ifCond (.eq) 14, 3) := by decide +kernel
theorem d25 : decode yB 25 = .ok (.aload_n 0, 1) := by decide +kernel
theorem d26 : decode yB 26 = .ok (.getfield 15, 3) := by decide +kernel
theorem d29 : decode yB 29 = .ok (.aload_n 2, 1) := by decide +kernel
theorem d30 : decode yB 30 = .ok (.getfield 15, 3) := by decide +kernel
theorem d33 : decode yB 33 = .ok (.if_icmp (.ne) 21, 3) := by decide +kernel
theorem d36 : decode yB 36 = .ok (.aload_n 0, 1) := by decide +kernel
theorem d37 : decode yB 37 = .ok (.getfield 9, 3) := by decide +kernel
theorem d40 : decode yB 40 = .ok (.aload_n 2, 1) := by decide +kernel
theorem d41 : decode yB 41 = .ok (.getfield 9, 3) := by decide +kernel
theorem d44 : decode yB 44 = .ok (.invokestatic 541, 3) := by decide +kernel
theorem d47 : decode yB 47 = .ok (.ifCond (.eq) 7, 3) := by decide +kernel
theorem d50 : decode yB 50 = .ok (.iconst 1, 1) := by decide +kernel
theorem d51 : decode yB 51 = .ok (.goto 4, 3) := by decide +kernel
theorem d54 : decode yB 54 = .ok (.iconst 0, 1) := by decide +kernel
theorem d55 : decode yB 55 = .ok (.ireturn, 1) := by decide +kernel
def site : List Cond := [.classLink "java/lang/String" 10 "java/lang/String", .fieldLink "java/lang/String" 38 "java/lang/String" "COMPACT_STRINGS" "Z", .fieldLink "java/lang/String" 15 "java/lang/String" "coder" "B", .fieldLink "java/lang/String" 9 "java/lang/String" "value" "[B", LEq.tab] ++ staticW "java/lang/String" 541 LEq.yN
def tab : Cond := tabOf yN yB 3 (some .boolean) site
def P (x t : Addr) (V : Cell) (cd : Int32) (n : Nat) (f : Nat → Int32) (y t' : Addr) (V' : Cell) (cd' : Int32) (k : Nat) (g : Nat → Int32) (z : Int32) (args : Array Value) (s : State) : Prop := args = #[.ref x, .ref y] ∧ Txt x t V cd n f s ∧ Txt y t' V' cd' k g s ∧ StaticIs s "java/lang/String" "COMPACT_STRINGS" "Z" (.int z) ∧ ¬ z = 0
/-- equals(Object) of two Strings: whether the texts are the same -/
theorem law (l : Launch) (x t : Addr) (V : Cell) (cd : Int32) (n : Nat) (f : Nat → Int32) (y t' : Addr) (V' : Cell) (cd' : Int32) (k : Nat) (g : Nat → Int32) (z : Int32) : Law l yN 2 1 1 14 yB 3 (some .boolean) site (P x t V cd n f y t' V' cd' k g z) (Says01 (SameT n f k g)) [] 0 0 := by
  refine Law.of_walk (plainFor_of_name (by decide +kernel)) (by decide +kernel) (by decide +kernel) (by decide) (fun _ _ h => by rw [h.1]; rfl) (fun _ U U' hal hh h => ⟨h.1, h.2.1.mv hal hh, h.2.2.1.mv hal hh, h.2.2.2.1.there hal hh, h.2.2.2.2⟩) (fun r U U' V V' h1 hal h2 h => Says01.mv r U U' V V' h1 hal h2 h) ?_
  intro p e s m args below meth c s₁ X0 hexec hbytes hml hret hlk hnm hown hh0 W hP
  obtain ⟨rfl, hx, hy, s1, hz⟩ := hP
  have c1 : Steps p.tables e below (s₁.setTop (entryFrame m #[.ref x, .ref y] 3)) (s₁.setTop (mkF m 2 #[.val (.ref x), .val (.ref y), .unset] [.ref y, .ref x])) := Steps.trans (entry rfl) (by
    show Steps p.tables e below (s₁.setTop (mkF m 0 #[.val (.ref x), .val (.ref y), .unset] [])) _
    refine XS.aloadN X0.here hexec rfl (hb hbytes d0) rfl rfl ?_
    refine XS.aloadN X0.here hexec rfl (hb hbytes d1) rfl rfl ?_
    exact Steps.refl _)
  by_cases hxy : x = y
  · have c2 : Steps p.tables e below (s₁.setTop (entryFrame m #[.ref x, .ref y] 3)) (s₁.setTop (mkF m 6 #[.val (.ref x), .val (.ref y), .unset] [.int 1])) := c1.trans (by
      refine acmpNo X0.here hexec rfl (hb hbytes d2) rfl rfl rfl (by simp [acmp, hxy]) ?_
      refine iconstV X0.here hexec rfl 1 (hb hbytes d5) (by decide) ?_
      exact Steps.refl _)
    subst hxy
    have ec : cd = cd' := by
      obtain ⟨D, fd, a1, a2, a3⟩ := hx.2.2.1
      obtain ⟨D', fd', b1, b2, b3⟩ := hy.2.2.1
      cases a1.symm.trans b1
      obtain ⟨q1, q2, q3, q4⟩ := a2.1
      obtain ⟨r1, r2, r3, r4⟩ := b2.1
      cases q4.symm.trans r4
      cases a3.symm.trans b3; rfl
    have et : t = t' := by
      obtain ⟨D, fd, a1, a2, a3⟩ := hx.2.1
      obtain ⟨D', fd', b1, b2, b3⟩ := hy.2.1
      cases a1.symm.trans b1
      obtain ⟨q1, q2, q3, q4⟩ := a2.1
      obtain ⟨r1, r2, r3, r4⟩ := b2.1
      cases q4.symm.trans r4
      cases a3.symm.trans b3; rfl
    subst ec et
    have ev : V = V' := by cases hx.2.2.2.1.1.symm.trans hy.2.2.2.1.1; rfl
    subst ev
    have hs : SameT n f k g := (Cod.eqv hx.2.2.2.2.1 hy.2.2.2.2.1 hx.2.2.2.2.2 hy.2.2.2.2.2).mp ⟨rfl, fun _ _ => rfl⟩
    exact ⟨s₁, some (.int 1), _, _, _, X0, rfl, rfl, rfl, (fun h => by cases h), ⟨1, rfl, hh0, Or.inl ⟨rfl, hs⟩⟩, fun fs hl => c2.trans (X0.ireturnOut hexec hret rfl (Or.inr (Or.inl rfl)) (hb hbytes d6) hl)⟩
  · have c2 : Steps p.tables e below (s₁.setTop (entryFrame m #[.ref x, .ref y] 3)) (s₁.setTop (mkF m 8 #[.val (.ref x), .val (.ref y), .unset] [.ref y])) := c1.trans (by
      refine acmpYes X0.here hexec rfl (pc0 := 2) rfl (hb hbytes d2) rfl rfl rfl (by simp [acmp, hxy]) (by decide) rfl ?_
      refine XS.aloadN X0.here hexec rfl (hb hbytes d7) rfl rfl ?_
      exact Steps.refl _)
    obtain ⟨T3, X3, q3, st3⟩ := cinst X0 hexec hown (wk W (.classLink "java/lang/String" 10 "java/lang/String")) (hy.mv X0.warmed.alike hh0).1 (g := (mkF m 8 #[.val (.ref x), .val (.ref y), .unset] [.ref y])) rfl (rest := []) rfl (hb hbytes d8)
    have hh3 := q3.trans hh0
    have c4 : Steps p.tables e below (s₁.setTop (entryFrame m #[.ref x, .ref y] 3)) (T3.setTop (mkF m 15 #[.val (.ref x), .val (.ref y), .unset] [.ref y])) := (c2.trans (st3 _ (Steps.refl _))).trans (by
      refine XS.ifNo X3.here hexec rfl (hb hbytes d11) rfl (i0_eq_f (by decide)) ?_
      refine XS.aloadN X3.here hexec rfl (hb hbytes d14) rfl rfl ?_
      exact Steps.refl _)
    obtain ⟨T5, X5, q5, st5⟩ := cself X3 hexec hown (wk W (.classLink "java/lang/String" 10 "java/lang/String")) (hy.mv X3.warmed.alike hh3).1 (g := (mkF m 15 #[.val (.ref x), .val (.ref y), .unset] [.ref y])) rfl (rest := []) rfl (hb hbytes d15)
    have hh5 := q5.trans hh3
    have c6 : Steps p.tables e below (s₁.setTop (entryFrame m #[.ref x, .ref y] 3)) (T5.setTop (mkF m 19 #[.val (.ref x), .val (.ref y), .val (.ref y)] [])) := (c4.trans (st5 _ (Steps.refl _))).trans (by
      refine XS.astoreN X5.here hexec rfl (hb hbytes d18) rfl rfl rfl ?_
      exact Steps.refl _)
    obtain ⟨T7, X7, q7, st7⟩ := X5.sget hexec hown (wk W (.fieldLink "java/lang/String" 38 "java/lang/String" "COMPACT_STRINGS" "Z")) s1 (fun _ _ h => by rw [hh5]; exact h) (g := (mkF m 19 #[.val (.ref x), .val (.ref y), .val (.ref y)] [])) rfl (hb hbytes d19)
    have hh7 := q7.trans hh5
    have c8 : Steps p.tables e below (s₁.setTop (entryFrame m #[.ref x, .ref y] 3)) (T7.setTop (mkF m 26 #[.val (.ref x), .val (.ref y), .val (.ref y)] [.ref x])) := (c6.trans (st7 _ (Steps.refl _))).trans (by
      refine XS.ifNo X7.here hexec rfl (hb hbytes d22) rfl (i0_eq_f hz) ?_
      refine XS.aloadN X7.here hexec rfl (hb hbytes d25) rfl rfl ?_
      exact Steps.refl _)
    obtain ⟨T9, X9, q9, st9⟩ := X7.hget hexec hown (wk W (.fieldLink "java/lang/String" 15 "java/lang/String" "coder" "B")) (hx.mv X7.warmed.alike hh7).2.2.1 (g := (mkF m 26 #[.val (.ref x), .val (.ref y), .val (.ref y)] [.ref x])) rfl (rest := []) rfl (hb hbytes d26)
    have hh9 := q9.trans hh7
    have c10 : Steps p.tables e below (s₁.setTop (entryFrame m #[.ref x, .ref y] 3)) (T9.setTop (mkF m 30 #[.val (.ref x), .val (.ref y), .val (.ref y)] [.ref y, .int cd])) := (c8.trans (st9 _ (Steps.refl _))).trans (by
      refine XS.aloadN X9.here hexec rfl (hb hbytes d29) rfl rfl ?_
      exact Steps.refl _)
    obtain ⟨T11, X11, q11, st11⟩ := X9.hget hexec hown (wk W (.fieldLink "java/lang/String" 15 "java/lang/String" "coder" "B")) (hy.mv X9.warmed.alike hh9).2.2.1 (g := (mkF m 30 #[.val (.ref x), .val (.ref y), .val (.ref y)] [.ref y, .int cd])) rfl (rest := [.int cd]) rfl (hb hbytes d30)
    have hh11 := q11.trans hh9
    have c12 : Steps p.tables e below (s₁.setTop (entryFrame m #[.ref x, .ref y] 3)) (T11.setTop (mkF m 33 #[.val (.ref x), .val (.ref y), .val (.ref y)] [.int cd', .int cd])) := c10.trans (st11 _ (Steps.refl _))
    by_cases hcd : cd = cd'
    · subst hcd
      have c13 : Steps p.tables e below (s₁.setTop (entryFrame m #[.ref x, .ref y] 3)) (T11.setTop (mkF m 37 #[.val (.ref x), .val (.ref y), .val (.ref y)] [.ref x])) := c12.trans (by
        refine XS.icmpNo X11.here hexec rfl (hb hbytes d33) rfl (ii_ne_f rfl) ?_
        refine XS.aloadN X11.here hexec rfl (hb hbytes d36) rfl rfl ?_
        exact Steps.refl _)
      obtain ⟨T14, X14, q14, st14⟩ := X11.hget hexec hown (wk W (.fieldLink "java/lang/String" 9 "java/lang/String" "value" "[B")) (hx.mv X11.warmed.alike hh11).2.1 (g := (mkF m 37 #[.val (.ref x), .val (.ref y), .val (.ref y)] [.ref x])) rfl (rest := []) rfl (hb hbytes d37)
      have hh14 := q14.trans hh11
      have c15 : Steps p.tables e below (s₁.setTop (entryFrame m #[.ref x, .ref y] 3)) (T14.setTop (mkF m 41 #[.val (.ref x), .val (.ref y), .val (.ref y)] [.ref y, .ref t])) := (c13.trans (st14 _ (Steps.refl _))).trans (by
        refine XS.aloadN X14.here hexec rfl (hb hbytes d40) rfl rfl ?_
        exact Steps.refl _)
      obtain ⟨T16, X16, q16, st16⟩ := X14.hget hexec hown (wk W (.fieldLink "java/lang/String" 9 "java/lang/String" "value" "[B")) (hy.mv X14.warmed.alike hh14).2.1 (g := (mkF m 41 #[.val (.ref x), .val (.ref y), .val (.ref y)] [.ref y, .ref t])) rfl (rest := [.ref t]) rfl (hb hbytes d41)
      have hh16 := q16.trans hh14
      have c17 : Steps p.tables e below (s₁.setTop (entryFrame m #[.ref x, .ref y] 3)) (T16.setTop (mkF m 44 #[.val (.ref x), .val (.ref y), .val (.ref y)] [.ref t', .ref t])) := c15.trans (st16 _ (Steps.refl _))
      obtain ⟨v18, T18, X18, E18, g18⟩ := X16.callS hexec (LEq.law l t V t' V') hown (wks W (staticW "java/lang/String" 541 LEq.yN)) (wk W LEq.tab) (W := 0) (Nat.le_of_ble_eq_true rfl) (Nat.le_of_ble_eq_true rfl) (Nat.le_refl _) (Nat.le_refl _) (g := (mkF m 44 #[.val (.ref x), .val (.ref y), .val (.ref y)] [.ref t', .ref t])) rfl (by rw [hml]; rfl) c17 (argsL := [.ref t, .ref t']) (rest := []) rfl rfl (by show 2 * 0 + 0 ≤ _; decide) (hb hbytes d44) (⟨rfl, hx.2.2.2.1.mv X16.warmed.alike hh16, hx.2.2.2.2.1.ty, hy.2.2.2.1.mv X16.warmed.alike hh16, hy.2.2.2.2.1.ty⟩)
      obtain ⟨v, rfl, q18, hv⟩ := E18
      have iff := Cod.eqv hx.2.2.2.2.1 hy.2.2.2.2.1 hx.2.2.2.2.2 hy.2.2.2.2.2
      rcases hv with ⟨rfl, he⟩ | ⟨rfl, he⟩
      · have c19 : Steps p.tables e below (s₁.setTop (entryFrame m #[.ref x, .ref y] 3)) (T18.setTop (mkF m 55 #[.val (.ref x), .val (.ref y), .val (.ref y)] [.int 1])) := Steps.trans g18 (by
          refine XS.ifNo X18.here hexec rfl (hb hbytes d47) rfl (i0_eq_f (by decide)) ?_
          refine iconstV X18.here hexec rfl 1 (hb hbytes d50) (by decide) ?_
          refine XS.goto X18.here hexec rfl (pc0 := 51) rfl (hb hbytes d51) (by decide) rfl ?_
          exact Steps.refl _)
        exact ⟨T18, some (.int 1), _, _, _, X18, rfl, rfl, rfl, (fun h => by cases h), ⟨1, rfl, q18.trans hh16, Or.inl ⟨rfl, iff.mp he⟩⟩, fun fs hl => c19.trans (X18.ireturnOut hexec hret rfl (Or.inr (Or.inl rfl)) (hb hbytes d55) hl)⟩
      · have c19 : Steps p.tables e below (s₁.setTop (entryFrame m #[.ref x, .ref y] 3)) (T18.setTop (mkF m 55 #[.val (.ref x), .val (.ref y), .val (.ref y)] [.int 0])) := Steps.trans g18 (by
          refine XS.ifYes X18.here hexec rfl (pc0 := 47) rfl (hb hbytes d47) rfl (i0_eq_t rfl) (by decide) rfl ?_
          refine iconstV X18.here hexec rfl 0 (hb hbytes d54) (by decide) ?_
          exact Steps.refl _)
        exact ⟨T18, some (.int 0), _, _, _, X18, rfl, rfl, rfl, (fun h => by cases h), ⟨0, rfl, q18.trans hh16, Or.inr ⟨rfl, fun q => he (iff.mpr q)⟩⟩, fun fs hl => c19.trans (X18.ireturnOut hexec hret rfl (Or.inr (Or.inl rfl)) (hb hbytes d55) hl)⟩
    · have c13 : Steps p.tables e below (s₁.setTop (entryFrame m #[.ref x, .ref y] 3)) (T11.setTop (mkF m 55 #[.val (.ref x), .val (.ref y), .val (.ref y)] [.int 0])) := c12.trans (by
        refine XS.icmpYes X11.here hexec rfl (pc0 := 33) rfl (hb hbytes d33) rfl (ii_ne_t hcd) (by decide) rfl ?_
        refine iconstV X11.here hexec rfl 0 (hb hbytes d54) (by decide) ?_
        exact Steps.refl _)
      exact ⟨T11, some (.int 0), _, _, _, X11, rfl, rfl, rfl, (fun h => by cases h), ⟨0, rfl, hh11, Or.inr ⟨rfl, Cod.dif hx.2.2.2.2.1 hy.2.2.2.2.1 hcd⟩⟩, fun fs hl => c13.trans (X11.ireturnOut hexec hret rfl (Or.inr (Or.inl rfl)) (hb hbytes d55) hl)⟩
theorem pays {l : Launch} {R : Room} {p : Program} {e : Env} {below : List Frame} {s : State} {sargs : Array Value} {len W : Nat} (x t : Addr) (V : Cell) (cd : Int32) (n : Nat) (f : Nat → Int32) (y t' : Addr) (V' : Cell) (cd' : Int32) (k : Nat) (g : Nat → Int32) (z : Int32) (htab : tab.before sargs s = true) (hfr : 2 ≤ R.frames) (hlo : W + 28 ≤ R.locals) :
    Back l R p e below s sargs yN len W (fun A₁ a₁ => A₁.cells + 0 ≤ R.cells ∧ A₁.slots + 0 ≤ R.slots ∧ P x t V cd n f y t' V' cd' k g z a₁ A₁.U) (fun A₁ _ v₁ B₁ => Says01 (SameT n f k g) v₁ A₁.U B₁.U ∧ B₁.locs = A₁.locs ++ [] ∧ B₁.cells = A₁.cells + 0 ∧ B₁.slots = A₁.slots + 0) :=
  (law l x t V cd n f y t' V' cd' k g z).pays htab hfr (by omega)
end SEq
end StrChars
namespace StrChars.Road
open Jvm Sem ClassFile Op Lib Jvm.Stand Jvm.Free Jvm.Free.XT
open Jvm.Lib.Cold (StaticIs)
/-- the words of String.equals(Object) -/
abbrev wordsEq : List Jvm.Cond := [.code SEq.yN SEq.yB 3 (some .boolean), .initialized ST, .classLink ST 10 ST, .fieldLink ST 38 ST "COMPACT_STRINGS" "Z", .fieldLink ST 15 ST "coder" "B", .fieldLink ST 9 ST "value" "[B", .methodLink ST 541 LEq.yN, .static LEq.yN, .code LEq.yN LEq.yB 3 (some .boolean), .initialized "java/lang/StringLatin1"]
theorem tabEq_of {a : Array Value} {s : State} (h : ∀ w ∈ wordsEq, w.before a s = true) : SEq.tab.before a s = true := by
  have hl : LEq.tab.before a s = true := unparts (wk h (.code LEq.yN LEq.yB 3 (some .boolean))) (wks h (.initialized LEq.yN.cls :: LEq.site))
  have q := consq hl h
  exact unparts (wk q (.code SEq.yN SEq.yB 3 (some .boolean))) (wks q (.initialized SEq.yN.cls :: SEq.site))
theorem movedEq {Z s : State} {a0 args : Array Value} (hZ : Z.Warmed39 s.vm) (hw : ∀ d ∈ wordsEq, d.before a0 Z = true) : ∀ d ∈ wordsEq, d.before args s = true := fun d hd => by
  have t : ∀ d ∈ wordsEq, (d.onTables && d.keepsFace) = true := by decide +kernel
  exact RoadKit.mv hZ (hw d hd) (t d hd)
/-- the road's facts of a String, as the laws ask it -/
theorem txt_of {Z U : State} {a0 : Array Value} {kI : Nat} (wi : (Jvm.Cond.instantiable ST kI).before a0 Z = true) (al : Z.vm.Alike U.vm) {x t : Addr} {kb : ClassId} {cs : List Int32} {cd N2 : Int32} {vs : List Value} (E : RoadKit.Exa Z U.heap x ST) (V : RoadKit.Fld Z U.heap x ST "value" "[B" (.ref t)) (C : RoadKit.Fld Z U.heap x ST "coder" "B" (.int cd)) (K : RoadKit.Arv Z U.heap t kb .byte N2 vs (.int 0)) (hc : CodA cs cd N2 vs) (hb : ∀ c ∈ cs, ¬ c < 0 ∧ ¬ (65535 : Int32) < c) (l2 : cs.length ≤ 4000) :
    ∃ A, Txt x t A cd cs.length (fun j => cs.getD j 0) U := by
  obtain ⟨A, K1, K2, K3, K4, K5, K6⟩ := K
  have hcod := hc.cod (by omega) K3 K5
  obtain ⟨D, fV, fC, hB, F1, F2, g1, g2, -, -⟩ := strObj wi al E V C
  exact ⟨A, ⟨_, hB.2.2.1, D, hB.1, rfl, by cases q : D.vm <;> first | rfl | exact absurd q (hB.2.1.2 _)⟩, Has.of hB F1 g1, Has.of hB F2 g2, ⟨K1.1, State.isArrayOf_alike al K1.2.1, K1.2.2, by rcases hcod with ⟨-, q, -⟩ | ⟨-, q, -⟩ <;> omega⟩, hcod, fun j hj => by
    have e : cs.getD j 0 = cs[j] := by simp [List.getD_eq_getElem?_getD, hj]
    show ¬ cs.getD j 0 < 0 ∧ ¬ 65535 < cs.getD j 0
    rw [e]; exact hb _ (List.getElem_mem _)⟩
theorem same_list (cs ds : List Int32) : SameT cs.length (fun j => cs.getD j 0) ds.length (fun j => ds.getD j 0) ↔ cs = ds := by
  constructor
  · rintro ⟨e, q⟩
    refine List.ext_getElem e fun j h1 h2 => ?_
    have := q j h1
    simpa [List.getD_eq_getElem?_getD, h1, h2] using this
  · rintro rfl
    exact ⟨rfl, fun _ _ => rfl⟩
/-- **equals(Object) OF TWO SUCH STRINGS**: 1 just where the chars are the same -/
theorem eqW {p : Program} {l : Launch} {e : Env} {R : Room} {s : State} {args : Array Value} {below : List Frame} {len W : Nat} {Z : State} {a0 : Array Value} {h : Heap} (hZ : Z.Warmed39 s.vm) (hw : ∀ d ∈ wordsEq, d.before a0 Z = true) {kI : Nat} (wi : (Jvm.Cond.instantiable ST kI).before a0 Z = true)
    {x t : Addr} {kb : ClassId} {cs : List Int32} {cd N2 : Int32} {vs : List Value} (E : RoadKit.Exa Z h x ST) (V : RoadKit.Fld Z h x ST "value" "[B" (.ref t)) (C : RoadKit.Fld Z h x ST "coder" "B" (.int cd)) (K : RoadKit.Arv Z h t kb .byte N2 vs (.int 0)) (hc : CodA cs cd N2 vs) (hb : ∀ c ∈ cs, ¬ c < 0 ∧ ¬ (65535 : Int32) < c) (l2 : cs.length ≤ 4000)
    {y t' : Addr} {kb' : ClassId} {ds : List Int32} {cd' N2' : Int32} {vs' : List Value} (E' : RoadKit.Exa Z h y ST) (V' : RoadKit.Fld Z h y ST "value" "[B" (.ref t')) (C' : RoadKit.Fld Z h y ST "coder" "B" (.int cd')) (K' : RoadKit.Arv Z h t' kb' .byte N2' vs' (.int 0)) (hc' : CodA ds cd' N2' vs') (hb' : ∀ c ∈ ds, ¬ c < 0 ∧ ¬ (65535 : Int32) < c) (l2' : ds.length ≤ 4000)
    {z : Int32} (S : RoadKit.Sta Z h ST "COMPACT_STRINGS" "Z" (.int z)) (hz : ¬ z = 0) (hfr : 2 ≤ R.frames) (hlo : W + 28 ≤ R.locals) :
    Back l R p e below s args (⟨"java/lang/String", "equals", "(Ljava/lang/Object;)Z"⟩ : MethodName) len W (fun P a => a = #[.ref x, .ref y] ∧ P.U.heap = h ∧ P.cells + 0 ≤ R.cells ∧ P.slots + 0 ≤ R.slots)
      (fun P _ v B => ∃ L, (((v = some (.int 1) ∧ cs = ds) ∨ (v = some (.int 0) ∧ ¬ cs = ds)) ∧ L = [] ∧ B.U.heap = h) ∧ B.locs = P.locs ++ L ∧ B.cells = P.cells + 0 ∧ B.slots = P.slots + 0) := by
  intro m meth c P g ig mk a X hg hsize hdg hW hn hp'
  obtain ⟨rfl, rfl, r1, r2⟩ := hp'
  have al : Z.vm.Alike P.U.vm := hZ.alike.trans X.warmed.alike
  obtain ⟨A, hx⟩ := txt_of wi al E V C K hc hb l2
  obtain ⟨A', hy⟩ := txt_of wi al E' V' C' K' hc' hb' l2'
  obtain ⟨v, B, X', ⟨⟨w, hv, hh, hq⟩, hl, hk, hs⟩, st⟩ := SEq.pays x t A cd cs.length (fun j => cs.getD j 0) y t' A' cd' ds.length (fun j => ds.getD j 0) z (tabEq_of (movedEq hZ hw)) hfr hlo m meth c P g ig mk _ X hg hsize hdg hW hn ⟨r1, r2, rfl, hx, hy, sta_is al S, hz⟩
  refine ⟨v, B, X', ⟨[], ⟨?_, rfl, hh⟩, hl, hk, hs⟩, st⟩
  rcases hq with ⟨rfl, q⟩ | ⟨rfl, q⟩
  · exact Or.inl ⟨hv, (same_list cs ds).mp q⟩
  · exact Or.inr ⟨hv, fun e => q ((same_list cs ds).mpr e)⟩
end StrChars.Road
namespace StrChars.Road
open Jvm Sem ClassFile Op Lib Jvm.Stand Jvm.Free Jvm.Free.XT
open Jvm.Lib.Cold (StaticIs)
/-- what backV says of its String, as the contracts of this text ask it: cs's low bytes, coder 0 -/
theorem codOf {cs : List Int32} {n : Nat} (hn : cs.length = n) (hb : ∀ c ∈ cs, ¬ 255 < c) : CodA cs 0 (Int32.ofNat n) ((cs.map lo8).map Value.int) := Or.inl ⟨rfl, by rw [hn], by simp [List.map_map, Function.comp_def], hb⟩
end StrChars.Road
end Jvm.Pilot.@@N@@
namespace Jvm.Pilot.@@N@@
open Jvm Jvm.ClassFile Sem Op Lib Jvm.Free Jvm.Stand Jvm.LawKit Jvm.RoadKit Bundle Jvm.Pilot.@@N@@.Jvm.D
theorem w0 {a0 : Array Value} {Z : State} (hw : ∀ d ∈ tables_1, d.before a0 Z = true) : (Jvm.Cond.methodLink "com/example/lakeledger/lakeledger/OperatorOfPinLaw" (28 : Nat) ({ cls := "com/example/lakeledger/lakeledger/OperatorOfPinLaw", name := "draw", desc := "(I)C" } : Jvm.MethodName)).before a0 Z = true := hw _ (List.mem_of_getElem? (i := 0) rfl)
theorem w1 {a0 : Array Value} {Z : State} (hw : ∀ d ∈ tables_1, d.before a0 Z = true) : (Jvm.Cond.static ({ cls := "com/example/lakeledger/lakeledger/OperatorOfPinLaw", name := "draw", desc := "(I)C" } : Jvm.MethodName)).before a0 Z = true := hw _ (List.mem_of_getElem? (i := 1) rfl)
theorem w2 {a0 : Array Value} {Z : State} (hw : ∀ d ∈ tables_1, d.before a0 Z = true) : (Jvm.Cond.initialized "com/example/lakeledger/lakeledger/OperatorOfPinLaw").before a0 Z = true := hw _ (List.mem_of_getElem? (i := 2) rfl)
theorem w3 {a0 : Array Value} {Z : State} (hw : ∀ d ∈ tables_1, d.before a0 Z = true) : (Jvm.Cond.code ({ cls := "com/example/lakeledger/lakeledger/OperatorOfPinLaw", name := "draw", desc := "(I)C" } : Jvm.MethodName) method_2_code (2 : Nat) (Option.some Jvm.ClassFile.FieldType.char)).before a0 Z = true := hw _ (List.mem_of_getElem? (i := 3) rfl)
theorem w4 {a0 : Array Value} {Z : State} (hw : ∀ d ∈ tables_1, d.before a0 Z = true) : (Jvm.Cond.arrayClass Jvm.ClassFile.FieldType.char).before a0 Z = true := hw _ (List.mem_of_getElem? (i := 4) rfl)
theorem w5 {a0 : Array Value} {Z : State} (hw : ∀ d ∈ tables_1, d.before a0 Z = true) : (Jvm.Cond.classLink "com/example/lakeledger/lakeledger/OperatorOfPinLaw" (34 : Nat) "java/lang/String").before a0 Z = true := hw _ (List.mem_of_getElem? (i := 5) rfl)
theorem w6 {a0 : Array Value} {Z : State} (hw : ∀ d ∈ tables_1, d.before a0 Z = true) : (Jvm.Cond.instantiable "java/lang/String" (4 : Nat)).before a0 Z = true := hw _ (List.mem_of_getElem? (i := 6) rfl)
theorem w7 {a0 : Array Value} {Z : State} (hw : ∀ d ∈ tables_1, d.before a0 Z = true) : (Jvm.Cond.initialized "java/lang/String").before a0 Z = true := hw _ (List.mem_of_getElem? (i := 7) rfl)
theorem w8 {a0 : Array Value} {Z : State} (hw : ∀ d ∈ tables_1, d.before a0 Z = true) : (Jvm.Cond.methodLink "com/example/lakeledger/lakeledger/OperatorOfPinLaw" (36 : Nat) ({ cls := "java/lang/String", name := "<init>", desc := "([C)V" } : Jvm.MethodName)).before a0 Z = true := hw _ (List.mem_of_getElem? (i := 8) rfl)
theorem w9 {a0 : Array Value} {Z : State} (hw : ∀ d ∈ tables_1, d.before a0 Z = true) : (Jvm.Cond.instanceMethod ({ cls := "java/lang/String", name := "<init>", desc := "([C)V" } : Jvm.MethodName)).before a0 Z = true := hw _ (List.mem_of_getElem? (i := 9) rfl)
theorem w10 {a0 : Array Value} {Z : State} (hw : ∀ d ∈ tables_1, d.before a0 Z = true) : (Jvm.Cond.code ({ cls := "java/lang/String", name := "<init>", desc := "([C)V" } : Jvm.MethodName) jdk_42_method_3_code (2 : Nat) (Option.none : Option Jvm.ClassFile.FieldType)).before a0 Z = true := hw _ (List.mem_of_getElem? (i := 10) rfl)
theorem w11 {a0 : Array Value} {Z : State} (hw : ∀ d ∈ tables_1, d.before a0 Z = true) : (Jvm.Cond.methodLink "java/lang/String" (27 : Nat) ({ cls := "java/lang/String", name := "<init>", desc := "([CIILjava/lang/Void;)V" } : Jvm.MethodName)).before a0 Z = true := hw _ (List.mem_of_getElem? (i := 11) rfl)
theorem w12 {a0 : Array Value} {Z : State} (hw : ∀ d ∈ tables_1, d.before a0 Z = true) : (Jvm.Cond.instanceMethod ({ cls := "java/lang/String", name := "<init>", desc := "([CIILjava/lang/Void;)V" } : Jvm.MethodName)).before a0 Z = true := hw _ (List.mem_of_getElem? (i := 12) rfl)
theorem w14 {a0 : Array Value} {Z : State} (hw : ∀ d ∈ tables_1, d.before a0 Z = true) : (Jvm.Cond.code ({ cls := "java/lang/String", name := "<init>", desc := "([CIILjava/lang/Void;)V" } : Jvm.MethodName) jdk_42_method_149_code (6 : Nat) (Option.none : Option Jvm.ClassFile.FieldType)).before a0 Z = true := hw _ (List.mem_of_getElem? (i := 14) rfl)
theorem w15 {a0 : Array Value} {Z : State} (hw : ∀ d ∈ tables_1, d.before a0 Z = true) : (Jvm.Cond.methodLink "java/lang/String" (1 : Nat) ({ cls := "java/lang/Object", name := "<init>", desc := "()V" } : Jvm.MethodName)).before a0 Z = true := hw _ (List.mem_of_getElem? (i := 15) rfl)
theorem w16 {a0 : Array Value} {Z : State} (hw : ∀ d ∈ tables_1, d.before a0 Z = true) : (Jvm.Cond.instanceMethod ({ cls := "java/lang/Object", name := "<init>", desc := "()V" } : Jvm.MethodName)).before a0 Z = true := hw _ (List.mem_of_getElem? (i := 16) rfl)
theorem w17 {a0 : Array Value} {Z : State} (hw : ∀ d ∈ tables_1, d.before a0 Z = true) : (Jvm.Cond.code ({ cls := "java/lang/Object", name := "<init>", desc := "()V" } : Jvm.MethodName) object_method_1_code (1 : Nat) (Option.none : Option Jvm.ClassFile.FieldType)).before a0 Z = true := hw _ (List.mem_of_getElem? (i := 17) rfl)
theorem w18 {a0 : Array Value} {Z : State} (hw : ∀ d ∈ tables_1, d.before a0 Z = true) : (Jvm.Cond.stringLink "java/lang/String" (7 : Nat) "").before a0 Z = true := hw _ (List.mem_of_getElem? (i := 18) rfl)
theorem w19 {a0 : Array Value} {Z : State} (hw : ∀ d ∈ tables_1, d.before a0 Z = true) : (Jvm.Cond.arrayClass Jvm.ClassFile.FieldType.byte).before a0 Z = true := hw _ (List.mem_of_getElem? (i := 19) rfl)
theorem w20 {a0 : Array Value} {Z : State} (hw : ∀ d ∈ tables_1, d.before a0 Z = true) : (Jvm.Cond.laysFinal "java/lang/String" "java/lang/String" "value" "[B").before a0 Z = true := hw _ (List.mem_of_getElem? (i := 20) rfl)
theorem w21 {a0 : Array Value} {Z : State} (hw : ∀ d ∈ tables_1, d.before a0 Z = true) : (Jvm.Cond.laysFinal "java/lang/String" "java/lang/String" "coder" "B").before a0 Z = true := hw _ (List.mem_of_getElem? (i := 21) rfl)
theorem w22 {a0 : Array Value} {Z : State} (hw : ∀ d ∈ tables_1, d.before a0 Z = true) : (Jvm.Cond.soleField "java/lang/String" "value").before a0 Z = true := hw _ (List.mem_of_getElem? (i := 22) rfl)
theorem w23 {a0 : Array Value} {Z : State} (hw : ∀ d ∈ tables_1, d.before a0 Z = true) : (Jvm.Cond.soleField "java/lang/String" "coder").before a0 Z = true := hw _ (List.mem_of_getElem? (i := 23) rfl)
theorem w24 {a0 : Array Value} {Z : State} (hw : ∀ d ∈ tables_1, d.before a0 Z = true) : (Jvm.Cond.fieldLink "java/lang/String" (9 : Nat) "java/lang/String" "value" "[B").before a0 Z = true := hw _ (List.mem_of_getElem? (i := 24) rfl)
theorem w25 {a0 : Array Value} {Z : State} (hw : ∀ d ∈ tables_1, d.before a0 Z = true) : (Jvm.Cond.fieldLink "java/lang/String" (15 : Nat) "java/lang/String" "coder" "B").before a0 Z = true := hw _ (List.mem_of_getElem? (i := 25) rfl)
theorem w26 {a0 : Array Value} {Z : State} (hw : ∀ d ∈ tables_1, d.before a0 Z = true) : (Jvm.Cond.methodLink "com/example/lakeledger/lakeledger/OperatorOfPinLaw" (39 : Nat) ({ cls := "com/example/lakeledger/lakeledger/Filter$Operator", name := "of", desc := "(Ljava/lang/String;)Lcom/example/lakeledger/lakeledger/Filter$Operator;" } : Jvm.MethodName)).before a0 Z = true := hw _ (List.mem_of_getElem? (i := 26) rfl)
theorem w27 {a0 : Array Value} {Z : State} (hw : ∀ d ∈ tables_1, d.before a0 Z = true) : (Jvm.Cond.static ({ cls := "com/example/lakeledger/lakeledger/Filter$Operator", name := "of", desc := "(Ljava/lang/String;)Lcom/example/lakeledger/lakeledger/Filter$Operator;" } : Jvm.MethodName)).before a0 Z = true := hw _ (List.mem_of_getElem? (i := 27) rfl)
theorem w28 {a0 : Array Value} {Z : State} (hw : ∀ d ∈ tables_1, d.before a0 Z = true) : (Jvm.Cond.initialized "com/example/lakeledger/lakeledger/Filter$Operator").before a0 Z = true := hw _ (List.mem_of_getElem? (i := 28) rfl)
theorem w29 {a0 : Array Value} {Z : State} (hw : ∀ d ∈ tables_1, d.before a0 Z = true) : (Jvm.Cond.code ({ cls := "com/example/lakeledger/lakeledger/Filter$Operator", name := "of", desc := "(Ljava/lang/String;)Lcom/example/lakeledger/lakeledger/Filter$Operator;" } : Jvm.MethodName) prog_21_method_4_code (5 : Nat) (Option.some (Jvm.ClassFile.FieldType.object "com/example/lakeledger/lakeledger/Filter$Operator"))).before a0 Z = true := hw _ (List.mem_of_getElem? (i := 29) rfl)
theorem w30 {a0 : Array Value} {Z : State} (hw : ∀ d ∈ tables_1, d.before a0 Z = true) : (Jvm.Cond.methodLink "com/example/lakeledger/lakeledger/Filter$Operator" (45 : Nat) ({ cls := "com/example/lakeledger/lakeledger/Filter$Operator", name := "values", desc := "()[Lcom/example/lakeledger/lakeledger/Filter$Operator;" } : Jvm.MethodName)).before a0 Z = true := hw _ (List.mem_of_getElem? (i := 30) rfl)
theorem w31 {a0 : Array Value} {Z : State} (hw : ∀ d ∈ tables_1, d.before a0 Z = true) : (Jvm.Cond.static ({ cls := "com/example/lakeledger/lakeledger/Filter$Operator", name := "values", desc := "()[Lcom/example/lakeledger/lakeledger/Filter$Operator;" } : Jvm.MethodName)).before a0 Z = true := hw _ (List.mem_of_getElem? (i := 31) rfl)
theorem w32 {a0 : Array Value} {Z : State} (hw : ∀ d ∈ tables_1, d.before a0 Z = true) : (Jvm.Cond.code ({ cls := "com/example/lakeledger/lakeledger/Filter$Operator", name := "values", desc := "()[Lcom/example/lakeledger/lakeledger/Filter$Operator;" } : Jvm.MethodName) prog_21_method_1_code (0 : Nat) (Option.some (Jvm.ClassFile.FieldType.array (Jvm.ClassFile.FieldType.object "com/example/lakeledger/lakeledger/Filter$Operator")))).before a0 Z = true := hw _ (List.mem_of_getElem? (i := 32) rfl)
theorem w33 {a0 : Array Value} {Z : State} (hw : ∀ d ∈ tables_1, d.before a0 Z = true) : (Jvm.Cond.fieldLink "com/example/lakeledger/lakeledger/Filter$Operator" (22 : Nat) "com/example/lakeledger/lakeledger/Filter$Operator" "$VALUES" "[Lcom/example/lakeledger/lakeledger/Filter$Operator;").before a0 Z = true := hw _ (List.mem_of_getElem? (i := 33) rfl)
theorem w35 {a0 : Array Value} {Z : State} (hw : ∀ d ∈ tables_1, d.before a0 Z = true) : (Jvm.Cond.methodLink "com/example/lakeledger/lakeledger/Filter$Operator" (26 : Nat) ({ cls := "[Lcom/example/lakeledger/lakeledger/Filter$Operator;", name := "clone", desc := "()Ljava/lang/Object;" } : Jvm.MethodName)).before a0 Z = true := hw _ (List.mem_of_getElem? (i := 35) rfl)
theorem w36 {a0 : Array Value} {Z : State} (hw : ∀ d ∈ tables_1, d.before a0 Z = true) : (Jvm.Cond.sameMethod "[Lcom/example/lakeledger/lakeledger/Filter$Operator;" "java/lang/Object" "clone" "()Ljava/lang/Object;").before a0 Z = true := hw _ (List.mem_of_getElem? (i := 36) rfl)
theorem w38 {a0 : Array Value} {Z : State} (hw : ∀ d ∈ tables_1, d.before a0 Z = true) : (Jvm.Cond.instanceMethod ({ cls := "java/lang/Object", name := "clone", desc := "()Ljava/lang/Object;" } : Jvm.MethodName)).before a0 Z = true := hw _ (List.mem_of_getElem? (i := 38) rfl)
theorem w39 {a0 : Array Value} {Z : State} (hw : ∀ d ∈ tables_1, d.before a0 Z = true) : (Jvm.Cond.selects "[Lcom/example/lakeledger/lakeledger/Filter$Operator;" ({ cls := "[Lcom/example/lakeledger/lakeledger/Filter$Operator;", name := "clone", desc := "()Ljava/lang/Object;" } : Jvm.MethodName) ({ cls := "java/lang/Object", name := "clone", desc := "()Ljava/lang/Object;" } : Jvm.MethodName)).before a0 Z = true := hw _ (List.mem_of_getElem? (i := 39) rfl)
theorem w40 {a0 : Array Value} {Z : State} (hw : ∀ d ∈ tables_1, d.before a0 Z = true) : (Jvm.Cond.native ({ cls := "java/lang/Object", name := "clone", desc := "()Ljava/lang/Object;" } : Jvm.MethodName)).before a0 Z = true := hw _ (List.mem_of_getElem? (i := 40) rfl)
theorem w41 {a0 : Array Value} {Z : State} (hw : ∀ d ∈ tables_1, d.before a0 Z = true) : (Jvm.Cond.castable "[Lcom/example/lakeledger/lakeledger/Filter$Operator;" "java/lang/Cloneable").before a0 Z = true := hw _ (List.mem_of_getElem? (i := 41) rfl)
theorem w42 {a0 : Array Value} {Z : State} (hw : ∀ d ∈ tables_1, d.before a0 Z = true) : (Jvm.Cond.laysStatic "com/example/lakeledger/lakeledger/Filter$Operator" "EQ" "Lcom/example/lakeledger/lakeledger/Filter$Operator;").before a0 Z = true := hw _ (List.mem_of_getElem? (i := 42) rfl)
theorem w43 {a0 : Array Value} {Z : State} (hw : ∀ d ∈ tables_1, d.before a0 Z = true) : (Jvm.Cond.laysStatic "com/example/lakeledger/lakeledger/Filter$Operator" "NE" "Lcom/example/lakeledger/lakeledger/Filter$Operator;").before a0 Z = true := hw _ (List.mem_of_getElem? (i := 43) rfl)
theorem w44 {a0 : Array Value} {Z : State} (hw : ∀ d ∈ tables_1, d.before a0 Z = true) : (Jvm.Cond.laysStatic "com/example/lakeledger/lakeledger/Filter$Operator" "LT" "Lcom/example/lakeledger/lakeledger/Filter$Operator;").before a0 Z = true := hw _ (List.mem_of_getElem? (i := 44) rfl)
theorem w45 {a0 : Array Value} {Z : State} (hw : ∀ d ∈ tables_1, d.before a0 Z = true) : (Jvm.Cond.laysStatic "com/example/lakeledger/lakeledger/Filter$Operator" "LE" "Lcom/example/lakeledger/lakeledger/Filter$Operator;").before a0 Z = true := hw _ (List.mem_of_getElem? (i := 45) rfl)
theorem w46 {a0 : Array Value} {Z : State} (hw : ∀ d ∈ tables_1, d.before a0 Z = true) : (Jvm.Cond.laysStatic "com/example/lakeledger/lakeledger/Filter$Operator" "GT" "Lcom/example/lakeledger/lakeledger/Filter$Operator;").before a0 Z = true := hw _ (List.mem_of_getElem? (i := 46) rfl)
theorem w47 {a0 : Array Value} {Z : State} (hw : ∀ d ∈ tables_1, d.before a0 Z = true) : (Jvm.Cond.laysStatic "com/example/lakeledger/lakeledger/Filter$Operator" "GE" "Lcom/example/lakeledger/lakeledger/Filter$Operator;").before a0 Z = true := hw _ (List.mem_of_getElem? (i := 47) rfl)
theorem w48 {a0 : Array Value} {Z : State} (hw : ∀ d ∈ tables_1, d.before a0 Z = true) : (Jvm.Cond.initializedFor "com/example/lakeledger/lakeledger/Filter$Operator" "$VALUES" "[Lcom/example/lakeledger/lakeledger/Filter$Operator;").before a0 Z = true := hw _ (List.mem_of_getElem? (i := 48) rfl)
theorem w49 {a0 : Array Value} {Z : State} (hw : ∀ d ∈ tables_1, d.before a0 Z = true) : (Jvm.Cond.classLink "com/example/lakeledger/lakeledger/Filter$Operator" (27 : Nat) "[Lcom/example/lakeledger/lakeledger/Filter$Operator;").before a0 Z = true := hw _ (List.mem_of_getElem? (i := 49) rfl)
theorem w51 {a0 : Array Value} {Z : State} (hw : ∀ d ∈ tables_1, d.before a0 Z = true) : (Jvm.Cond.fieldLink "com/example/lakeledger/lakeledger/Filter$Operator" (41 : Nat) "com/example/lakeledger/lakeledger/Filter$Operator" "symbol" "Ljava/lang/String;").before a0 Z = true := hw _ (List.mem_of_getElem? (i := 51) rfl)
theorem w53 {a0 : Array Value} {Z : State} (hw : ∀ d ∈ tables_1, d.before a0 Z = true) : (Jvm.Cond.methodLink "com/example/lakeledger/lakeledger/Filter$Operator" (49 : Nat) ({ cls := "java/lang/String", name := "equals", desc := "(Ljava/lang/Object;)Z" } : Jvm.MethodName)).before a0 Z = true := hw _ (List.mem_of_getElem? (i := 53) rfl)
theorem w54 {a0 : Array Value} {Z : State} (hw : ∀ d ∈ tables_1, d.before a0 Z = true) : (Jvm.Cond.declares ({ cls := "java/lang/String", name := "equals", desc := "(Ljava/lang/Object;)Z" } : Jvm.MethodName)).before a0 Z = true := hw _ (List.mem_of_getElem? (i := 54) rfl)
theorem w55 {a0 : Array Value} {Z : State} (hw : ∀ d ∈ tables_1, d.before a0 Z = true) : (Jvm.Cond.instanceMethod ({ cls := "java/lang/String", name := "equals", desc := "(Ljava/lang/Object;)Z" } : Jvm.MethodName)).before a0 Z = true := hw _ (List.mem_of_getElem? (i := 55) rfl)
theorem w56 {a0 : Array Value} {Z : State} (hw : ∀ d ∈ tables_1, d.before a0 Z = true) : (Jvm.Cond.selects "java/lang/String" ({ cls := "java/lang/String", name := "equals", desc := "(Ljava/lang/Object;)Z" } : Jvm.MethodName) ({ cls := "java/lang/String", name := "equals", desc := "(Ljava/lang/Object;)Z" } : Jvm.MethodName)).before a0 Z = true := hw _ (List.mem_of_getElem? (i := 56) rfl)
theorem w64 {a0 : Array Value} {Z : State} (hw : ∀ d ∈ tables_1, d.before a0 Z = true) : (Jvm.Cond.methodLink "com/example/lakeledger/lakeledger/OperatorOfPinLaw" (43 : Nat) ({ cls := "com/example/lakeledger/lakeledger/OperatorOfPinLaw", name := "expected", desc := "(ICC)Lcom/example/lakeledger/lakeledger/Filter$Operator;" } : Jvm.MethodName)).before a0 Z = true := hw _ (List.mem_of_getElem? (i := 64) rfl)
theorem w65 {a0 : Array Value} {Z : State} (hw : ∀ d ∈ tables_1, d.before a0 Z = true) : (Jvm.Cond.static ({ cls := "com/example/lakeledger/lakeledger/OperatorOfPinLaw", name := "expected", desc := "(ICC)Lcom/example/lakeledger/lakeledger/Filter$Operator;" } : Jvm.MethodName)).before a0 Z = true := hw _ (List.mem_of_getElem? (i := 65) rfl)
theorem w66 {a0 : Array Value} {Z : State} (hw : ∀ d ∈ tables_1, d.before a0 Z = true) : (Jvm.Cond.code ({ cls := "com/example/lakeledger/lakeledger/OperatorOfPinLaw", name := "expected", desc := "(ICC)Lcom/example/lakeledger/lakeledger/Filter$Operator;" } : Jvm.MethodName) method_3_code (3 : Nat) (Option.some (Jvm.ClassFile.FieldType.object "com/example/lakeledger/lakeledger/Filter$Operator"))).before a0 Z = true := hw _ (List.mem_of_getElem? (i := 66) rfl)
theorem w77 {a0 : Array Value} {Z : State} (hw : ∀ d ∈ tables_1, d.before a0 Z = true) : (Jvm.Cond.fieldLink "com/example/lakeledger/lakeledger/OperatorOfPinLaw" (13 : Nat) "com/example/lakeledger/lakeledger/Filter$Operator" "LT" "Lcom/example/lakeledger/lakeledger/Filter$Operator;").before a0 Z = true := hw _ (List.mem_of_getElem? (i := 77) rfl)
theorem w78 {a0 : Array Value} {Z : State} (hw : ∀ d ∈ tables_1, d.before a0 Z = true) : (Jvm.Cond.fieldLink "com/example/lakeledger/lakeledger/OperatorOfPinLaw" (16 : Nat) "com/example/lakeledger/lakeledger/Filter$Operator" "GT" "Lcom/example/lakeledger/lakeledger/Filter$Operator;").before a0 Z = true := hw _ (List.mem_of_getElem? (i := 78) rfl)
theorem w79 {a0 : Array Value} {Z : State} (hw : ∀ d ∈ tables_1, d.before a0 Z = true) : (Jvm.Cond.fieldLink "com/example/lakeledger/lakeledger/OperatorOfPinLaw" (19 : Nat) "com/example/lakeledger/lakeledger/Filter$Operator" "NE" "Lcom/example/lakeledger/lakeledger/Filter$Operator;").before a0 Z = true := hw _ (List.mem_of_getElem? (i := 79) rfl)
theorem w80 {a0 : Array Value} {Z : State} (hw : ∀ d ∈ tables_1, d.before a0 Z = true) : (Jvm.Cond.fieldLink "com/example/lakeledger/lakeledger/OperatorOfPinLaw" (7 : Nat) "com/example/lakeledger/lakeledger/Filter$Operator" "EQ" "Lcom/example/lakeledger/lakeledger/Filter$Operator;").before a0 Z = true := hw _ (List.mem_of_getElem? (i := 80) rfl)
theorem w81 {a0 : Array Value} {Z : State} (hw : ∀ d ∈ tables_1, d.before a0 Z = true) : (Jvm.Cond.fieldLink "com/example/lakeledger/lakeledger/OperatorOfPinLaw" (22 : Nat) "com/example/lakeledger/lakeledger/Filter$Operator" "LE" "Lcom/example/lakeledger/lakeledger/Filter$Operator;").before a0 Z = true := hw _ (List.mem_of_getElem? (i := 81) rfl)
theorem w82 {a0 : Array Value} {Z : State} (hw : ∀ d ∈ tables_1, d.before a0 Z = true) : (Jvm.Cond.fieldLink "com/example/lakeledger/lakeledger/OperatorOfPinLaw" (25 : Nat) "com/example/lakeledger/lakeledger/Filter$Operator" "GE" "Lcom/example/lakeledger/lakeledger/Filter$Operator;").before a0 Z = true := hw _ (List.mem_of_getElem? (i := 82) rfl)
theorem pd___CIILjava_lang_Void__V : parseMethodDescriptor "([CIILjava/lang/Void;)V" = some ⟨[(.array .char), .int, .int, (.object "java/lang/Void")], none⟩ := by decide +kernel
theorem pd____Lcom_example_lakeledger_lakeledger_Filter_Operator_ : parseMethodDescriptor "()[Lcom/example/lakeledger/lakeledger/Filter$Operator;" = some ⟨[], (some (.array (.object "com/example/lakeledger/lakeledger/Filter$Operator")))⟩ := by decide +kernel
theorem pd__Ljava_lang_Object__Z : parseMethodDescriptor "(Ljava/lang/Object;)Z" = some ⟨[(.object "java/lang/Object")], (some .boolean)⟩ := by decide +kernel
theorem pd__I_C : parseMethodDescriptor "(I)C" = some ⟨[.int], (some .char)⟩ := by decide +kernel
theorem pd___C_V : parseMethodDescriptor "([C)V" = some ⟨[(.array .char)], none⟩ := by decide +kernel
theorem pd__Ljava_lang_String__Lcom_example_lakeledger_lakeledger_Filter_Operator_ : parseMethodDescriptor "(Ljava/lang/String;)Lcom/example/lakeledger/lakeledger/Filter$Operator;" = some ⟨[(.object "java/lang/String")], (some (.object "com/example/lakeledger/lakeledger/Filter$Operator"))⟩ := by decide +kernel
theorem pd__ICC_Lcom_example_lakeledger_lakeledger_Filter_Operator_ : parseMethodDescriptor "(ICC)Lcom/example/lakeledger/lakeledger/Filter$Operator;" = some ⟨[.int, .char, .char], (some (.object "com/example/lakeledger/lakeledger/Filter$Operator"))⟩ := by decide +kernel
theorem pn_com_example_lakeledger_lakeledger_OperatorOfPinLaw : plainName "com/example/lakeledger/lakeledger/OperatorOfPinLaw" = true := by first | (simp [plainName, overriddenIn]; done) | decide +kernel
theorem pn_java_lang_String : plainName "java/lang/String" = true := by first | (simp [plainName, overriddenIn]; done) | decide +kernel
theorem pn_com_example_lakeledger_lakeledger_Filter_Operator : plainName "com/example/lakeledger/lakeledger/Filter$Operator" = true := by first | (simp [plainName, overriddenIn]; done) | decide +kernel

/-- a Latin-1 String that spells cs -/
def own_Str (Z : State) (h : Heap) (a : Addr) (cs : List Int32) : Prop := ∃ (t : Addr) (kb : ClassId), Exa Z h a "java/lang/String" ∧ Fld Z h a "java/lang/String" "coder" "B" (.int 0) ∧ Fld Z h a "java/lang/String" "value" "[B" (.ref t) ∧ Arv Z h t kb .byte (Int32.ofNat cs.length) ((cs.map StrChars.lo8).map Value.int) (.int 0)
theorem own_ltn {i n : Nat} (h : i < n) (hn : n < 2 ^ 31) : Int32.ofNat i < Int32.ofNat n := Int32.lt_iff_toInt_lt.mpr (by rw [Int32.toInt_ofNat_of_lt (by omega), Int32.toInt_ofNat_of_lt (by omega)]; omega)
theorem own_nltn {i n : Nat} (h : n ≤ i) (hn : i < 2 ^ 31) : ¬ Int32.ofNat i < Int32.ofNat n := fun q => by
  have := Int32.lt_iff_toInt_lt.mp q
  rw [Int32.toInt_ofNat_of_lt (by omega), Int32.toInt_ofNat_of_lt (by omega)] at this; omega
theorem own_one (i : Nat) : Int32.ofNat i + (1 : Int32) = Int32.ofNat (i + 1) := (Int32.ofNat_add i 1).symm
theorem own_onat {x : Int32} {k : Nat} (h : x.toInt = k) : x = Int32.ofNat k := Int32.toInt_inj.mp (by rw [h, Int32.toInt_ofNat_of_lt (by have := x.toInt_lt; omega)])
theorem own_natne {i n : Nat} (hi : i < 2 ^ 31) (hn : n < 2 ^ 31) (h : Int32.ofNat i = Int32.ofNat n) : i = n := by
  have := congrArg Int32.toInt h
  rw [Int32.toInt_ofNat_of_lt (by omega), Int32.toInt_ofNat_of_lt (by omega)] at this; omega
theorem own_hwsE {a0 : Array Value} {Z : State} (hw : ∀ d ∈ tables_1, d.before a0 Z = true) : ∀ d ∈ StrChars.Road.wordsEq, d.before a0 Z = true := fun d hd => hw d ((by decide +kernel : ∀ d ∈ StrChars.Road.wordsEq, d ∈ tables_1) d hd)
theorem own_EW {a0 : Array Value} {Z : State} (hw : ∀ d ∈ tables_1, d.before a0 Z = true) : EW Z a0 consts_1 := (EW.cons (w18 hw) (by decide) EW.nil)
theorem own_hws {a0 : Array Value} {Z : State} (hw : ∀ d ∈ tables_1, d.before a0 Z = true) : ∀ d ∈ StrChars.Road.words, d.before a0 Z = true := fun d hd => hw d ((by decide +kernel : ∀ d ∈ StrChars.Road.words, d ∈ tables_1) d hd)
theorem own_strAtoms {a0 : Array Value} {Z : State} (hw : ∀ d ∈ tables_1, d.before a0 Z = true) : ∀ a ∈ Bundle.stringAtoms, a.before a0 Z = true := fun d hd => by
  simp only [Bundle.stringAtoms, Bundle.sN, List.mem_cons, List.not_mem_nil, or_false] at hd
  rcases hd with rfl | rfl | rfl | rfl | rfl | rfl | rfl
  · exact (w7 hw)
  · exact (w6 hw)
  · exact (w19 hw)
  · exact (w20 hw)
  · exact (w21 hw)
  · exact (w22 hw)
  · exact (w23 hw)

theorem own_len {args : Array Value} {s : State} {t : Jvm.Term} {a : Addr} {cl : Cell} {ty : FieldType} {n : Int32} {k : Nat} (ev : t.eval args s none [] s = some (.ref a)) (A : Arr s s.heap a cl ty) (h : (Jvm.Term.length t).eval args s none [] s = some (.int n)) (hn : n.toInt = k) : cl.slots.size = k := by
  have hA := A.fin (Vm.Alike.refl _)
  by_cases hl : cl.slots.size < 2 ^ 31
  · have e := (len_f ev hA hl).symm.trans h
    simp only [Option.some.injEq, Value.int.injEq] at e
    have := len_toInt hl
    rw [e, hn] at this
    exact (Int.ofNat.inj this).symm
  · simp [Term.eval, ev, hA, hl] at h

theorem own_nneg {n : Int32} (h : 0 ≤ n.toInt) : ¬ n < (0 : Int32) := fun q => by
  have := Int32.lt_iff_toInt_lt.mp q
  have e : (0 : Int32).toInt = 0 := by decide
  omega
theorem own_nlt {x y : Int32} (h : y.toInt ≤ x.toInt) : ¬ x < y := fun q => by
  have := Int32.lt_iff_toInt_lt.mp q; omega
theorem own_lt {x y : Int32} (h : x.toInt < y.toInt) : x < y := Int32.lt_iff_toInt_lt.mpr h
theorem own_m255 (x : Int32) : 0 ≤ (x &&& (255 : Int32)).toInt ∧ (x &&& (255 : Int32)).toInt ≤ 255 := c_and x 255 (by decide)
/-- a char below 256 is what castore lays of it -/
theorem own_narc {x : Int32} (h1 : 0 ≤ x.toInt) (h2 : x.toInt ≤ 65535) : nar .char x = x := by
  have e : (x.toUInt32.toUInt16.toUInt32.toInt32.toInt - x.toInt) % 65536 = 0 := (c_i2c x).1
  have r := (c_i2c x).2
  have : nar .char x = x.toUInt32.toUInt16.toUInt32.toInt32 := rfl
  rw [this]
  exact Int32.toInt_inj.mp (by omega)
theorem own_i2c {x : Int32} (h1 : 0 ≤ x.toInt) (h2 : x.toInt ≤ 65535) : x.toUInt32.toUInt16.toUInt32.toInt32 = x := own_narc h1 h2

theorem own_frnil {k : Nat} {L L' : List Loc} (N : Fr k L) (e : L' = []) : Fr k (L ++ L') := by subst e; rw [List.append_nil]; exact N
theorem own_up {c : Int32} (h : ¬ c < 0 ∧ ¬ (255 : Int32) < c) : ¬ c < 0 ∧ ¬ (65535 : Int32) < c := ⟨h.1, fun q => h.2 (Int32.lt_iff_toInt_lt.mpr (by have := Int32.lt_iff_toInt_lt.mp q; rw [show (65535 : Int32).toInt = 65535 by decide] at this; rw [show (255 : Int32).toInt = 255 by decide]; omega))⟩

theorem own_n8 {c : Int32} (h1 : 0 ≤ c.toInt) (h2 : c.toInt ≤ 255) : nar .char c = c := own_narc h1 (by omega)
theorem own_n255 (x : Int32) : nar .char (x &&& (255 : Int32)) = x &&& (255 : Int32) := own_narc (own_m255 x).1 (by have := (own_m255 x).2; omega)
theorem own_c8 {c : Int32} (h1 : 0 ≤ c.toInt) (h2 : c.toInt ≤ 255) : ¬ c < 0 ∧ ¬ (255 : Int32) < c := ⟨own_nneg h1, own_nlt (by show _ ≤ (255 : Int32).toInt; exact h2)⟩
def own_B (cs : List Int32) : Prop := ∀ c ∈ cs, ¬ c < 0 ∧ ¬ (255 : Int32) < c
theorem own_B.take {cs : List Int32} (h : own_B cs) (n : Nat) : own_B (cs.take n) := fun c hc => h c (List.mem_of_mem_take hc)
theorem own_cref {u : Value} (r : u.isRef = true) : u.category = 1 := by cases u <;> simp [Value.isRef] at r <;> rfl
theorem own_Str.ext {Z : State} {h h' : Heap} {a : Addr} {cs : List Int32} (F : own_Str Z h a cs) (E : Ext h h') : own_Str Z h' a cs := by
  obtain ⟨t, kb, f1, f2, f3, f4⟩ := F
  exact ⟨t, kb, f1.ext E, f2.ext E, f3.ext E, f4.ext E⟩
def own_of (cs : List Int32) (o0 o1 o2 o3 o4 o5 : Addr) : Value := if [(61 : Int32)] = cs then .ref o0 else if [(33 : Int32), (61 : Int32)] = cs then .ref o1 else if [(60 : Int32)] = cs then .ref o2 else if [(60 : Int32), (61 : Int32)] = cs then .ref o3 else if [(62 : Int32)] = cs then .ref o4 else if [(62 : Int32), (61 : Int32)] = cs then .ref o5 else .null
def own_ex (n c0 c1 : Int32) (o0 o1 o2 o3 o4 o5 : Addr) : Value := if n = 1 then (if c0 = 61 then .ref o0 else if c0 = 60 then .ref o2 else if c0 = 62 then .ref o4 else .null) else if n = 2 then (if c1 = 61 then (if c0 = 33 then .ref o1 else if c0 = 60 then .ref o3 else if c0 = 62 then .ref o5 else .null) else .null) else .null
theorem own_of_ref {cs : List Int32} {o0 o1 o2 o3 o4 o5 : Addr} : (own_of cs o0 o1 o2 o3 o4 o5).isRef = true := by unfold own_of; (repeat' split) <;> rfl
theorem own_ex_ref {n c0 c1 : Int32} {o0 o1 o2 o3 o4 o5 : Addr} : (own_ex n c0 c1 o0 o1 o2 o3 o4 o5).isRef = true := by unfold own_ex; (repeat' split) <;> rfl
theorem own_agree0 {c0 c1 : Int32} {o0 o1 o2 o3 o4 o5 : Addr} : own_of [] o0 o1 o2 o3 o4 o5 = own_ex 0 c0 c1 o0 o1 o2 o3 o4 o5 := by simp [own_of, own_ex]
theorem own_agree1 {c0 c1 : Int32} {o0 o1 o2 o3 o4 o5 : Addr} : own_of [c0] o0 o1 o2 o3 o4 o5 = own_ex 1 c0 c1 o0 o1 o2 o3 o4 o5 := by
  simp only [own_of, own_ex, List.cons.injEq, and_true, reduceCtorEq, and_false, if_false, if_true, eq_comm (a := c0)]
theorem own_agree2 {c0 c1 : Int32} {o0 o1 o2 o3 o4 o5 : Addr} : own_of [c0, c1] o0 o1 o2 o3 o4 o5 = own_ex 2 c0 c1 o0 o1 o2 o3 o4 o5 := by
  by_cases q : c1 = 61
  · subst q
    simp [own_of, own_ex, eq_comm (a := c0)]
  · have q' : ¬ (61 : Int32) = c1 := fun e => q e.symm
    simp [own_of, own_ex, q, q']
theorem own_agree3 {c0 c1 c2 : Int32} {o0 o1 o2 o3 o4 o5 : Addr} : own_of [c0, c1, c2] o0 o1 o2 o3 o4 o5 = own_ex 3 c0 c1 o0 o1 o2 o3 o4 o5 := by simp [own_of, own_ex]
theorem own_sym {s : State} {args : Array Value} {t : Jvm.Term} {a : Addr} {cs : List Int32} (hfit : Fit s) (ev : t.eval args s none [] s = some (.ref a)) (hE : (Jvm.Cond.exactly t "java/lang/String").value args s none s [] = some true) (hC : (Jvm.Cond.eq (.field t "java/lang/String" "coder" "B") (.int 0)).value args s none s [] = some true) (hA : (Jvm.Cond.arrayOf (.field t "java/lang/String" "value" "[B") .byte).value args s none s [] = some true)
    (hL : (Jvm.Cond.eq (.length (.field t "java/lang/String" "value" "[B")) (.int (Int32.ofNat cs.length))).value args s none s [] = some true) (hX : ∀ k, k < cs.length → (Jvm.Cond.eq (.elem (.field t "java/lang/String" "value" "[B") (.int (Int32.ofNat k))) (.int (StrChars.lo8 (cs.getD k 0)))).value args s none s [] = some true) (hl : cs.length < 2 ^ 31) : own_Str s s.heap a cs := by
  obtain ⟨tt, et⟩ := arr_v hA
  obtain ⟨cl, A⟩ := Arr.start et hA
  have hlen := Cond.eq_int (Cond.before_iff.mpr hL) rfl
  have hsz : cl.slots.size = cs.length := own_len et A hlen (Int32.toInt_ofNat_of_lt hl)
  have hslot : ∀ k, k < cs.length → cl.slots[k]? = some (.int (StrChars.lo8 (cs.getD k 0))) := fun k hk => by
    have e1 := Cond.eq_int (Cond.before_iff.mpr (hX k hk)) rfl
    have e2 : (Int32.ofNat k).toNatClampNeg = k := by simp only [Int32.toNatClampNeg, Int32.toInt_ofNat_of_lt (show k < 2 ^ 31 by omega)]; rfl
    have e3 := (elem_f et (j := Int32.ofNat k) rfl (A.fin (Vm.Alike.refl _)) (own_nneg (by rw [Int32.toInt_ofNat_of_lt (by omega)]; omega))).symm.trans e1
    rw [e2] at e3; exact e3
  refine ⟨tt, cl.cls, Exa.start ev hE, Fld.start ((fld_at ev).symm.trans (Cond.eq_int (Cond.before_iff.mpr hC) rfl)), Fld.start ((fld_at ev).symm.trans et), ?_⟩
  refine ⟨cl, A, rfl, ?_, own_nneg (by rw [Int32.toInt_ofNat_of_lt hl]; omega), fun k hk => ?_, fun k hk => ?_⟩
  · simp only [Int32.toNatClampNeg, Int32.toInt_ofNat_of_lt hl, hsz]; rfl
  · rw [hslot k (by omega)]
    have : k < cs.length := by omega
    simp [List.getD_eq_getElem?_getD, this]
  · have : k < cs.length := by omega
    simp only [List.getD_eq_getElem?_getD, List.getElem?_map, List.getElem?_eq_getElem this, Option.map_some, Option.getD_some]
    exact StrChars.fits_lo8 _

theorem own_tbl {x : Int32} : ([(.int (61 : Int32)), (.int (33 : Int32)), (.int (60 : Int32)), (.int (62 : Int32)), (.int (61 : Int32)), (.int (60 : Int32)), (.int (62 : Int32)), (.int (33 : Int32))] : List Value).getD (x &&& (7 : Int32)).toNatClampNeg (.int 0) = .int ([(61 : Int32), (33 : Int32), (60 : Int32), (62 : Int32), (61 : Int32), (60 : Int32), (62 : Int32), (33 : Int32)].getD (x &&& (7 : Int32)).toNatClampNeg 0) ∧ 0 ≤ ([(61 : Int32), (33 : Int32), (60 : Int32), (62 : Int32), (61 : Int32), (60 : Int32), (62 : Int32), (33 : Int32)].getD (x &&& (7 : Int32)).toNatClampNeg (0 : Int32)).toInt ∧ ([(61 : Int32), (33 : Int32), (60 : Int32), (62 : Int32), (61 : Int32), (60 : Int32), (62 : Int32), (33 : Int32)].getD (x &&& (7 : Int32)).toNatClampNeg (0 : Int32)).toInt ≤ 255 := by
  have h := c_and x 7 (by decide)
  rw [show (7 : Int32).toInt = 7 by decide] at h
  have hk : (x &&& (7 : Int32)).toNatClampNeg < 8 := by simp only [Int32.toNatClampNeg]; omega
  revert hk
  generalize (x &&& (7 : Int32)).toNatClampNeg = k
  intro hk
  match k, hk with
  | 0, _ => exact ⟨rfl, by decide, by decide⟩
  | 1, _ => exact ⟨rfl, by decide, by decide⟩
  | 2, _ => exact ⟨rfl, by decide, by decide⟩
  | 3, _ => exact ⟨rfl, by decide, by decide⟩
  | 4, _ => exact ⟨rfl, by decide, by decide⟩
  | 5, _ => exact ⟨rfl, by decide, by decide⟩
  | 6, _ => exact ⟨rfl, by decide, by decide⟩
  | 7, _ => exact ⟨rfl, by decide, by decide⟩
theorem own_in8 (x : Int32) : ¬ (x &&& (7 : Int32)) < 0 ∧ (x &&& (7 : Int32)) < (8 : Int32) := by
  have h := c_and x 7 (by decide)
  rw [show (7 : Int32).toInt = 7 by decide] at h
  exact ⟨own_nneg h.1, own_lt (by rw [show (8 : Int32).toInt = 8 by decide]; omega)⟩

theorem own_Str.keep0 {Z : State} {h h' : Heap} {a : Addr} {cs : List Int32} (F : own_Str Z h a cs) (K : Keep h h' []) : own_Str Z h' a cs := by
  obtain ⟨t, kb, f1, f2, f3, f4⟩ := F
  exact ⟨t, kb, f1.keep K, f2.keep K nin0, f3.keep K nin0, f4.keep K nin0⟩

theorem own_m3 (x : Int32) : x &&& (3 : Int32) = 0 ∨ x &&& (3 : Int32) = 1 ∨ x &&& (3 : Int32) = 2 ∨ x &&& (3 : Int32) = 3 := by
  have h := c_and x 3 (by decide)
  rw [show (3 : Int32).toInt = 3 by decide] at h
  have : (x &&& (3 : Int32)).toInt = 0 ∨ (x &&& (3 : Int32)).toInt = 1 ∨ (x &&& (3 : Int32)).toInt = 2 ∨ (x &&& (3 : Int32)).toInt = 3 := by omega
  rcases this with q | q | q | q
  · exact Or.inl (Int32.toInt_inj.mp q)
  · exact Or.inr (Or.inl (Int32.toInt_inj.mp q))
  · exact Or.inr (Or.inr (Or.inl (Int32.toInt_inj.mp q)))
  · exact Or.inr (Or.inr (Or.inr (Int32.toInt_inj.mp q)))

theorem own_elem {s : State} {args : Array Value} {t u : Jvm.Term} {a o : Addr} {cl : Cell} {ty : FieldType} {j : Int32} (ev : t.eval args s none [] s = some (.ref a)) (A : Arr s s.heap a cl ty) (eu : u.eval args s none [] s = some (.ref o)) (h : (Jvm.Cond.eq (.elem t (.int j)) u).value args s none s [] = some true) (hj : ¬ j < 0) : cl.slots[j.toNatClampNeg]? = some (.ref o) := by
  obtain ⟨x, y, e1, e2, k1, k2⟩ := cmp_v (Or.inl h)
  cases eu.symm.trans e2
  have hx : x.isRef = true := by cases x <;> simp [Kin, Value.isRef] at k1 k2 ⊢
  have := gotT (eq_R e1 eu hx rfl) h
  rw [this] at e1
  exact (elem_f ev (j := j) rfl (A.fin (Vm.Alike.refl _)) hj).symm.trans e1

theorem ddraw_0 : decode method_2_code 0 = .ok (.iload_n 0, 1) := by decide +kernel
theorem ddraw_1 : decode method_2_code 1 = .ok (.sipush 256, 3) := by decide +kernel
theorem ddraw_4 : decode method_2_code 4 = .ok (.iand, 1) := by decide +kernel
theorem ddraw_5 : decode method_2_code 5 = .ok (.ifCond .eq 57, 3) := by decide +kernel
theorem ddraw_8 : decode method_2_code 8 = .ok (.bipush 8, 2) := by decide +kernel
theorem ddraw_10 : decode method_2_code 10 = .ok (.newarray .char, 2) := by decide +kernel
theorem ddraw_12 : decode method_2_code 12 = .ok (.dup, 1) := by decide +kernel
theorem ddraw_13 : decode method_2_code 13 = .ok (.iconst 0, 1) := by decide +kernel
theorem ddraw_14 : decode method_2_code 14 = .ok (.bipush 61, 2) := by decide +kernel
theorem ddraw_16 : decode method_2_code 16 = .ok (.castore, 1) := by decide +kernel
theorem ddraw_17 : decode method_2_code 17 = .ok (.dup, 1) := by decide +kernel
theorem ddraw_18 : decode method_2_code 18 = .ok (.iconst 1, 1) := by decide +kernel
theorem ddraw_19 : decode method_2_code 19 = .ok (.bipush 33, 2) := by decide +kernel
theorem ddraw_21 : decode method_2_code 21 = .ok (.castore, 1) := by decide +kernel
theorem ddraw_22 : decode method_2_code 22 = .ok (.dup, 1) := by decide +kernel
theorem ddraw_23 : decode method_2_code 23 = .ok (.iconst 2, 1) := by decide +kernel
theorem ddraw_24 : decode method_2_code 24 = .ok (.bipush 60, 2) := by decide +kernel
theorem ddraw_26 : decode method_2_code 26 = .ok (.castore, 1) := by decide +kernel
theorem ddraw_27 : decode method_2_code 27 = .ok (.dup, 1) := by decide +kernel
theorem ddraw_28 : decode method_2_code 28 = .ok (.iconst 3, 1) := by decide +kernel
theorem ddraw_29 : decode method_2_code 29 = .ok (.bipush 62, 2) := by decide +kernel
theorem ddraw_31 : decode method_2_code 31 = .ok (.castore, 1) := by decide +kernel
theorem ddraw_32 : decode method_2_code 32 = .ok (.dup, 1) := by decide +kernel
theorem ddraw_33 : decode method_2_code 33 = .ok (.iconst 4, 1) := by decide +kernel
theorem ddraw_34 : decode method_2_code 34 = .ok (.bipush 61, 2) := by decide +kernel
theorem ddraw_36 : decode method_2_code 36 = .ok (.castore, 1) := by decide +kernel
theorem ddraw_37 : decode method_2_code 37 = .ok (.dup, 1) := by decide +kernel
theorem ddraw_38 : decode method_2_code 38 = .ok (.iconst 5, 1) := by decide +kernel
theorem ddraw_39 : decode method_2_code 39 = .ok (.bipush 60, 2) := by decide +kernel
theorem ddraw_41 : decode method_2_code 41 = .ok (.castore, 1) := by decide +kernel
theorem ddraw_42 : decode method_2_code 42 = .ok (.dup, 1) := by decide +kernel
theorem ddraw_43 : decode method_2_code 43 = .ok (.bipush 6, 2) := by decide +kernel
theorem ddraw_45 : decode method_2_code 45 = .ok (.bipush 62, 2) := by decide +kernel
theorem ddraw_47 : decode method_2_code 47 = .ok (.castore, 1) := by decide +kernel
theorem ddraw_48 : decode method_2_code 48 = .ok (.dup, 1) := by decide +kernel
theorem ddraw_49 : decode method_2_code 49 = .ok (.bipush 7, 2) := by decide +kernel
theorem ddraw_51 : decode method_2_code 51 = .ok (.bipush 33, 2) := by decide +kernel
theorem ddraw_53 : decode method_2_code 53 = .ok (.castore, 1) := by decide +kernel
theorem ddraw_54 : decode method_2_code 54 = .ok (.astore_n 1, 1) := by decide +kernel
theorem ddraw_55 : decode method_2_code 55 = .ok (.aload_n 1, 1) := by decide +kernel
theorem ddraw_56 : decode method_2_code 56 = .ok (.iload_n 0, 1) := by decide +kernel
theorem ddraw_57 : decode method_2_code 57 = .ok (.bipush 7, 2) := by decide +kernel
theorem ddraw_59 : decode method_2_code 59 = .ok (.iand, 1) := by decide +kernel
theorem ddraw_60 : decode method_2_code 60 = .ok (.caload, 1) := by decide +kernel
theorem ddraw_61 : decode method_2_code 61 = .ok (.ireturn, 1) := by decide +kernel
theorem ddraw_62 : decode method_2_code 62 = .ok (.iload_n 0, 1) := by decide +kernel
theorem ddraw_63 : decode method_2_code 63 = .ok (.sipush 255, 3) := by decide +kernel
theorem ddraw_66 : decode method_2_code 66 = .ok (.iand, 1) := by decide +kernel
theorem ddraw_67 : decode method_2_code 67 = .ok (.i2c, 1) := by decide +kernel
theorem ddraw_68 : decode method_2_code 68 = .ok (.ireturn, 1) := by decide +kernel
set_option maxRecDepth 65536 in
set_option maxHeartbeats 40000000 in
theorem rm_draw (l : Launch) (Z : State) (a0 : Array Value) (hw : ∀ d ∈ tables_1, d.before a0 Z = true) (p1 : Int32) (h0 : Heap) (O0 : Old Z Z.heap.size h0)  :
    own_Con l Z (⟨"com/example/lakeledger/lakeledger/OperatorOfPinLaw", "draw", "(I)C"⟩ : MethodName) method_2_code 2 (some .char) ({ frames := 0, cells := 1, slots := 8, locals := 0 } : Room) #[(.int p1)] h0 (fun v h L => ∃ c, v = some (.int c) ∧ Fr Z.heap.size L ∧ Keep h0 h [] ∧ 0 ≤ c.toInt ∧ c.toInt ≤ 255) := by
  refine own_con (ls := #[.val (.int p1), .unset]) (pn_com_example_lakeledger_lakeledger_OperatorOfPinLaw) (fun m => by first | (simp [entryFrame, mkF, argsToLocals, Value.category]; done) | rfl) ?_
  intro p e s m below meth c s₁ hx hby hml0 hown0 hnm0 hret0 hlk hZ X0 e0
  have hml : c.maxLocals = 2 := hml0
  have hown : s.vm.findClass "com/example/lakeledger/lakeledger/OperatorOfPinLaw" = some m.cls := hown0
  have hnm : meth.name = "draw" := hnm0
  have hret : meth.sig.returnType = (some .char) := hret0
  have F1 := Fr.nil Z.heap.size
  have F2 := Keep.refl h0 []
  refine own_step (T' := s₁) (g' := (mkF m 1 #[.val (.int p1), .unset] [(.int p1)])) (fun _ kk => XS.iloadN X0.here hx rfl (hb hby ddraw_0) rfl kk) ?_
  refine own_step (T' := s₁) (g' := (mkF m 4 #[.val (.int p1), .unset] [(.int (256 : Int32)), (.int p1)])) (fun _ kk => XS.sipush X0.here hx rfl (hb hby ddraw_1) kk) ?_
  refine own_step (T' := s₁) (g' := (mkF m 5 #[.val (.int p1), .unset] [(.int (p1 &&& (256 : Int32)))])) (fun _ kk => XS.iand X0.here hx rfl (hb hby ddraw_4) rfl kk) ?_
  by_cases c3 : (p1 &&& (256 : Int32)) = (0 : Int32)
  · refine own_step (T' := s₁) (g' := (mkF m 62 #[.val (.int p1), .unset] [])) (fun _ kk => XS.ifYes X0.here hx rfl (pc0 := 5) (pc' := 62) rfl (hb hby ddraw_5) rfl ((if0 _ _).trans (teq c3).1) (by decide) (by decide) kk) ?_
    refine own_step (T' := s₁) (g' := (mkF m 63 #[.val (.int p1), .unset] [(.int p1)])) (fun _ kk => XS.iloadN X0.here hx rfl (hb hby ddraw_62) rfl kk) ?_
    refine own_step (T' := s₁) (g' := (mkF m 66 #[.val (.int p1), .unset] [(.int (255 : Int32)), (.int p1)])) (fun _ kk => XS.sipush X0.here hx rfl (hb hby ddraw_63) kk) ?_
    refine own_step (T' := s₁) (g' := (mkF m 67 #[.val (.int p1), .unset] [(.int (p1 &&& (255 : Int32)))])) (fun _ kk => XS.iand X0.here hx rfl (hb hby ddraw_66) rfl kk) ?_
    refine own_step (T' := s₁) (g' := (mkF m 68 #[.val (.int p1), .unset] [(.int ((p1 &&& (255 : Int32)).toUInt32.toUInt16.toUInt32.toInt32))])) (fun _ kk => XS.i2c X0.here hx rfl (hb hby ddraw_67) rfl kk) ?_
    rw [i2c_mask]
    exact own_retN X0 hx hlk (t := .char) hret (by simp) (hb hby ddraw_68) e0 ⟨p1 &&& (255 : Int32), by rw [own_n255], F1, F2, (own_m255 p1).1, (own_m255 p1).2⟩ (by decide) (by decide)
  · refine own_step (T' := s₁) (g' := (mkF m 8 #[.val (.int p1), .unset] [])) (fun _ kk => XS.ifNo X0.here hx rfl (hb hby ddraw_5) rfl ((if0 _ _).trans (feq c3).1) kk) ?_
    refine own_step (T' := s₁) (g' := (mkF m 10 #[.val (.int p1), .unset] [(.int (8 : Int32))])) (fun _ kk => XS.bipush X0.here hx rfl (hb hby ddraw_8) kk) ?_
    obtain ⟨T5, h5, cA5, X5, e5, E5, A5, st5⟩ := newP X0 hx hZ (aty := .char) (w4 hw) e0 (g := (mkF m 10 #[.val (.int p1), .unset] [(.int (8 : Int32))])) rfl (hb hby ddraw_10) rfl (by decide) (cap := 8) (by decide) (by decide) (by decide) (by decide)
    obtain ⟨a4, g5⟩ : ∃ z, z = h0.size := ⟨_, rfl⟩
    rw [← g5] at A5 st5
    have ge6 : Z.heap.size ≤ a4 := by rw [g5]; exact O0.2.1
    have ng7 : h0.size ≤ a4 := by rw [g5]; exact F2.1
    have F8 := O0.ext E5
    have F9 := F2.ext E5
    have F10 : Arv Z h5 a4 cA5 .char (8 : Int32) [] (.int 0) := Arv.new A5 (by decide)
    refine own_step (T' := T5) (g' := (mkF m 12 #[.val (.int p1), .unset] [(.ref a4)])) (fun _ kk => st5 _ kk) ?_
    have F11 : Arv Z h5 a4 cA5 .char (8 : Int32) [(.int 0), (.int 0), (.int 0), (.int 0), (.int 0), (.int 0), (.int 0), (.int 0)] (.int 0) := Arv.pad F10 (pad_rep [] (.int 0) 8)
    refine own_step (T' := T5) (g' := (mkF m 13 #[.val (.int p1), .unset] [(.ref a4), (.ref a4)])) (fun _ kk => XS.dup X5.here hx rfl (hb hby ddraw_12) rfl rfl kk) ?_
    refine own_step (T' := T5) (g' := (mkF m 14 #[.val (.int p1), .unset] [(.int (0 : Int32)), (.ref a4), (.ref a4)])) (fun _ kk => XS.iconst X5.here hx rfl (hb hby ddraw_13) kk) ?_
    refine own_step (T' := T5) (g' := (mkF m 16 #[.val (.int p1), .unset] [(.int (61 : Int32)), (.int (0 : Int32)), (.ref a4), (.ref a4)])) (fun _ kk => XS.bipush X5.here hx rfl (hb hby ddraw_14) kk) ?_
    obtain ⟨Ac12, Ar12, q12, Sz12, Nn12, Hs12, Gs12⟩ := F11
    obtain ⟨T12, h12, X12, e12, W12, st12⟩ := stC X5 hx hZ e5 Ar12 (j := (0 : Int32)) (x := (61 : Int32)) (inb_of Sz12 ⟨by decide, by decide⟩) (g := (mkF m 16 #[.val (.int p1), .unset] [(.int (61 : Int32)), (.int (0 : Int32)), (.ref a4), (.ref a4)])) rfl rfl (hb hby ddraw_16)
    have F13 := Fr.snoc X12 F1 ge6
    have F14 := F8.wr W12 ge6
    have F15 := F9.wr W12 (Or.inr ng7)
    have F16 : Arv Z h12 a4 cA5 .char (8 : Int32) [(.int (61 : Int32)), (.int 0), (.int 0), (.int 0), (.int 0), (.int 0), (.int 0), (.int 0)] (.int 0) := by
      have q := Arv.set Ar12 q12 Sz12 Nn12 Hs12 Gs12 (fits_nar_char _) W12 0 rfl (Nat.le_of_ble_eq_true rfl)
      rw [(by decide : nar .char (61 : Int32) = 61)] at q
      exact q
    refine own_step (T' := T12) (g' := (mkF m 17 #[.val (.int p1), .unset] [(.ref a4)])) (fun _ kk => st12 _ kk) ?_
    refine own_step (T' := T12) (g' := (mkF m 18 #[.val (.int p1), .unset] [(.ref a4), (.ref a4)])) (fun _ kk => XS.dup X12.here hx rfl (hb hby ddraw_17) rfl rfl kk) ?_
    refine own_step (T' := T12) (g' := (mkF m 19 #[.val (.int p1), .unset] [(.int (1 : Int32)), (.ref a4), (.ref a4)])) (fun _ kk => XS.iconst X12.here hx rfl (hb hby ddraw_18) kk) ?_
    refine own_step (T' := T12) (g' := (mkF m 21 #[.val (.int p1), .unset] [(.int (33 : Int32)), (.int (1 : Int32)), (.ref a4), (.ref a4)])) (fun _ kk => XS.bipush X12.here hx rfl (hb hby ddraw_19) kk) ?_
    obtain ⟨Ac17, Ar17, q17, Sz17, Nn17, Hs17, Gs17⟩ := F16
    obtain ⟨T17, h17, X17, e17, W17, st17⟩ := stC X12 hx hZ e12 Ar17 (j := (1 : Int32)) (x := (33 : Int32)) (inb_of Sz17 ⟨by decide, by decide⟩) (g := (mkF m 21 #[.val (.int p1), .unset] [(.int (33 : Int32)), (.int (1 : Int32)), (.ref a4), (.ref a4)])) rfl rfl (hb hby ddraw_21)
    have F18 := Fr.snoc X17 F13 ge6
    have F19 := F14.wr W17 ge6
    have F20 := F15.wr W17 (Or.inr ng7)
    have F21 : Arv Z h17 a4 cA5 .char (8 : Int32) [(.int (61 : Int32)), (.int (33 : Int32)), (.int 0), (.int 0), (.int 0), (.int 0), (.int 0), (.int 0)] (.int 0) := by
      have q := Arv.set Ar17 q17 Sz17 Nn17 Hs17 Gs17 (fits_nar_char _) W17 1 rfl (Nat.le_of_ble_eq_true rfl)
      rw [(by decide : nar .char (33 : Int32) = 33)] at q
      exact q
    refine own_step (T' := T17) (g' := (mkF m 22 #[.val (.int p1), .unset] [(.ref a4)])) (fun _ kk => st17 _ kk) ?_
    refine own_step (T' := T17) (g' := (mkF m 23 #[.val (.int p1), .unset] [(.ref a4), (.ref a4)])) (fun _ kk => XS.dup X17.here hx rfl (hb hby ddraw_22) rfl rfl kk) ?_
    refine own_step (T' := T17) (g' := (mkF m 24 #[.val (.int p1), .unset] [(.int (2 : Int32)), (.ref a4), (.ref a4)])) (fun _ kk => XS.iconst X17.here hx rfl (hb hby ddraw_23) kk) ?_
    refine own_step (T' := T17) (g' := (mkF m 26 #[.val (.int p1), .unset] [(.int (60 : Int32)), (.int (2 : Int32)), (.ref a4), (.ref a4)])) (fun _ kk => XS.bipush X17.here hx rfl (hb hby ddraw_24) kk) ?_
    obtain ⟨Ac22, Ar22, q22, Sz22, Nn22, Hs22, Gs22⟩ := F21
    obtain ⟨T22, h22, X22, e22, W22, st22⟩ := stC X17 hx hZ e17 Ar22 (j := (2 : Int32)) (x := (60 : Int32)) (inb_of Sz22 ⟨by decide, by decide⟩) (g := (mkF m 26 #[.val (.int p1), .unset] [(.int (60 : Int32)), (.int (2 : Int32)), (.ref a4), (.ref a4)])) rfl rfl (hb hby ddraw_26)
    have F23 := Fr.snoc X22 F18 ge6
    have F24 := F19.wr W22 ge6
    have F25 := F20.wr W22 (Or.inr ng7)
    have F26 : Arv Z h22 a4 cA5 .char (8 : Int32) [(.int (61 : Int32)), (.int (33 : Int32)), (.int (60 : Int32)), (.int 0), (.int 0), (.int 0), (.int 0), (.int 0)] (.int 0) := by
      have q := Arv.set Ar22 q22 Sz22 Nn22 Hs22 Gs22 (fits_nar_char _) W22 2 rfl (Nat.le_of_ble_eq_true rfl)
      rw [(by decide : nar .char (60 : Int32) = 60)] at q
      exact q
    refine own_step (T' := T22) (g' := (mkF m 27 #[.val (.int p1), .unset] [(.ref a4)])) (fun _ kk => st22 _ kk) ?_
    refine own_step (T' := T22) (g' := (mkF m 28 #[.val (.int p1), .unset] [(.ref a4), (.ref a4)])) (fun _ kk => XS.dup X22.here hx rfl (hb hby ddraw_27) rfl rfl kk) ?_
    refine own_step (T' := T22) (g' := (mkF m 29 #[.val (.int p1), .unset] [(.int (3 : Int32)), (.ref a4), (.ref a4)])) (fun _ kk => XS.iconst X22.here hx rfl (hb hby ddraw_28) kk) ?_
    refine own_step (T' := T22) (g' := (mkF m 31 #[.val (.int p1), .unset] [(.int (62 : Int32)), (.int (3 : Int32)), (.ref a4), (.ref a4)])) (fun _ kk => XS.bipush X22.here hx rfl (hb hby ddraw_29) kk) ?_
    obtain ⟨Ac27, Ar27, q27, Sz27, Nn27, Hs27, Gs27⟩ := F26
    obtain ⟨T27, h27, X27, e27, W27, st27⟩ := stC X22 hx hZ e22 Ar27 (j := (3 : Int32)) (x := (62 : Int32)) (inb_of Sz27 ⟨by decide, by decide⟩) (g := (mkF m 31 #[.val (.int p1), .unset] [(.int (62 : Int32)), (.int (3 : Int32)), (.ref a4), (.ref a4)])) rfl rfl (hb hby ddraw_31)
    have F28 := Fr.snoc X27 F23 ge6
    have F29 := F24.wr W27 ge6
    have F30 := F25.wr W27 (Or.inr ng7)
    have F31 : Arv Z h27 a4 cA5 .char (8 : Int32) [(.int (61 : Int32)), (.int (33 : Int32)), (.int (60 : Int32)), (.int (62 : Int32)), (.int 0), (.int 0), (.int 0), (.int 0)] (.int 0) := by
      have q := Arv.set Ar27 q27 Sz27 Nn27 Hs27 Gs27 (fits_nar_char _) W27 3 rfl (Nat.le_of_ble_eq_true rfl)
      rw [(by decide : nar .char (62 : Int32) = 62)] at q
      exact q
    refine own_step (T' := T27) (g' := (mkF m 32 #[.val (.int p1), .unset] [(.ref a4)])) (fun _ kk => st27 _ kk) ?_
    refine own_step (T' := T27) (g' := (mkF m 33 #[.val (.int p1), .unset] [(.ref a4), (.ref a4)])) (fun _ kk => XS.dup X27.here hx rfl (hb hby ddraw_32) rfl rfl kk) ?_
    refine own_step (T' := T27) (g' := (mkF m 34 #[.val (.int p1), .unset] [(.int (4 : Int32)), (.ref a4), (.ref a4)])) (fun _ kk => XS.iconst X27.here hx rfl (hb hby ddraw_33) kk) ?_
    refine own_step (T' := T27) (g' := (mkF m 36 #[.val (.int p1), .unset] [(.int (61 : Int32)), (.int (4 : Int32)), (.ref a4), (.ref a4)])) (fun _ kk => XS.bipush X27.here hx rfl (hb hby ddraw_34) kk) ?_
    obtain ⟨Ac32, Ar32, q32, Sz32, Nn32, Hs32, Gs32⟩ := F31
    obtain ⟨T32, h32, X32, e32, W32, st32⟩ := stC X27 hx hZ e27 Ar32 (j := (4 : Int32)) (x := (61 : Int32)) (inb_of Sz32 ⟨by decide, by decide⟩) (g := (mkF m 36 #[.val (.int p1), .unset] [(.int (61 : Int32)), (.int (4 : Int32)), (.ref a4), (.ref a4)])) rfl rfl (hb hby ddraw_36)
    have F33 := Fr.snoc X32 F28 ge6
    have F34 := F29.wr W32 ge6
    have F35 := F30.wr W32 (Or.inr ng7)
    have F36 : Arv Z h32 a4 cA5 .char (8 : Int32) [(.int (61 : Int32)), (.int (33 : Int32)), (.int (60 : Int32)), (.int (62 : Int32)), (.int (61 : Int32)), (.int 0), (.int 0), (.int 0)] (.int 0) := by
      have q := Arv.set Ar32 q32 Sz32 Nn32 Hs32 Gs32 (fits_nar_char _) W32 4 rfl (Nat.le_of_ble_eq_true rfl)
      rw [(by decide : nar .char (61 : Int32) = 61)] at q
      exact q
    refine own_step (T' := T32) (g' := (mkF m 37 #[.val (.int p1), .unset] [(.ref a4)])) (fun _ kk => st32 _ kk) ?_
    refine own_step (T' := T32) (g' := (mkF m 38 #[.val (.int p1), .unset] [(.ref a4), (.ref a4)])) (fun _ kk => XS.dup X32.here hx rfl (hb hby ddraw_37) rfl rfl kk) ?_
    refine own_step (T' := T32) (g' := (mkF m 39 #[.val (.int p1), .unset] [(.int (5 : Int32)), (.ref a4), (.ref a4)])) (fun _ kk => XS.iconst X32.here hx rfl (hb hby ddraw_38) kk) ?_
    refine own_step (T' := T32) (g' := (mkF m 41 #[.val (.int p1), .unset] [(.int (60 : Int32)), (.int (5 : Int32)), (.ref a4), (.ref a4)])) (fun _ kk => XS.bipush X32.here hx rfl (hb hby ddraw_39) kk) ?_
    obtain ⟨Ac37, Ar37, q37, Sz37, Nn37, Hs37, Gs37⟩ := F36
    obtain ⟨T37, h37, X37, e37, W37, st37⟩ := stC X32 hx hZ e32 Ar37 (j := (5 : Int32)) (x := (60 : Int32)) (inb_of Sz37 ⟨by decide, by decide⟩) (g := (mkF m 41 #[.val (.int p1), .unset] [(.int (60 : Int32)), (.int (5 : Int32)), (.ref a4), (.ref a4)])) rfl rfl (hb hby ddraw_41)
    have F38 := Fr.snoc X37 F33 ge6
    have F39 := F34.wr W37 ge6
    have F40 := F35.wr W37 (Or.inr ng7)
    have F41 : Arv Z h37 a4 cA5 .char (8 : Int32) [(.int (61 : Int32)), (.int (33 : Int32)), (.int (60 : Int32)), (.int (62 : Int32)), (.int (61 : Int32)), (.int (60 : Int32)), (.int 0), (.int 0)] (.int 0) := by
      have q := Arv.set Ar37 q37 Sz37 Nn37 Hs37 Gs37 (fits_nar_char _) W37 5 rfl (Nat.le_of_ble_eq_true rfl)
      rw [(by decide : nar .char (60 : Int32) = 60)] at q
      exact q
    refine own_step (T' := T37) (g' := (mkF m 42 #[.val (.int p1), .unset] [(.ref a4)])) (fun _ kk => st37 _ kk) ?_
    refine own_step (T' := T37) (g' := (mkF m 43 #[.val (.int p1), .unset] [(.ref a4), (.ref a4)])) (fun _ kk => XS.dup X37.here hx rfl (hb hby ddraw_42) rfl rfl kk) ?_
    refine own_step (T' := T37) (g' := (mkF m 45 #[.val (.int p1), .unset] [(.int (6 : Int32)), (.ref a4), (.ref a4)])) (fun _ kk => XS.bipush X37.here hx rfl (hb hby ddraw_43) kk) ?_
    refine own_step (T' := T37) (g' := (mkF m 47 #[.val (.int p1), .unset] [(.int (62 : Int32)), (.int (6 : Int32)), (.ref a4), (.ref a4)])) (fun _ kk => XS.bipush X37.here hx rfl (hb hby ddraw_45) kk) ?_
    obtain ⟨Ac42, Ar42, q42, Sz42, Nn42, Hs42, Gs42⟩ := F41
    obtain ⟨T42, h42, X42, e42, W42, st42⟩ := stC X37 hx hZ e37 Ar42 (j := (6 : Int32)) (x := (62 : Int32)) (inb_of Sz42 ⟨by decide, by decide⟩) (g := (mkF m 47 #[.val (.int p1), .unset] [(.int (62 : Int32)), (.int (6 : Int32)), (.ref a4), (.ref a4)])) rfl rfl (hb hby ddraw_47)
    have F43 := Fr.snoc X42 F38 ge6
    have F44 := F39.wr W42 ge6
    have F45 := F40.wr W42 (Or.inr ng7)
    have F46 : Arv Z h42 a4 cA5 .char (8 : Int32) [(.int (61 : Int32)), (.int (33 : Int32)), (.int (60 : Int32)), (.int (62 : Int32)), (.int (61 : Int32)), (.int (60 : Int32)), (.int (62 : Int32)), (.int 0)] (.int 0) := by
      have q := Arv.set Ar42 q42 Sz42 Nn42 Hs42 Gs42 (fits_nar_char _) W42 6 rfl (Nat.le_of_ble_eq_true rfl)
      rw [(by decide : nar .char (62 : Int32) = 62)] at q
      exact q
    refine own_step (T' := T42) (g' := (mkF m 48 #[.val (.int p1), .unset] [(.ref a4)])) (fun _ kk => st42 _ kk) ?_
    refine own_step (T' := T42) (g' := (mkF m 49 #[.val (.int p1), .unset] [(.ref a4), (.ref a4)])) (fun _ kk => XS.dup X42.here hx rfl (hb hby ddraw_48) rfl rfl kk) ?_
    refine own_step (T' := T42) (g' := (mkF m 51 #[.val (.int p1), .unset] [(.int (7 : Int32)), (.ref a4), (.ref a4)])) (fun _ kk => XS.bipush X42.here hx rfl (hb hby ddraw_49) kk) ?_
    refine own_step (T' := T42) (g' := (mkF m 53 #[.val (.int p1), .unset] [(.int (33 : Int32)), (.int (7 : Int32)), (.ref a4), (.ref a4)])) (fun _ kk => XS.bipush X42.here hx rfl (hb hby ddraw_51) kk) ?_
    obtain ⟨Ac47, Ar47, q47, Sz47, Nn47, Hs47, Gs47⟩ := F46
    obtain ⟨T47, h47, X47, e47, W47, st47⟩ := stC X42 hx hZ e42 Ar47 (j := (7 : Int32)) (x := (33 : Int32)) (inb_of Sz47 ⟨by decide, by decide⟩) (g := (mkF m 53 #[.val (.int p1), .unset] [(.int (33 : Int32)), (.int (7 : Int32)), (.ref a4), (.ref a4)])) rfl rfl (hb hby ddraw_53)
    have F48 := Fr.snoc X47 F43 ge6
    have F49 := F44.wr W47 ge6
    have F50 := F45.wr W47 (Or.inr ng7)
    have F51 : Arv Z h47 a4 cA5 .char (8 : Int32) [(.int (61 : Int32)), (.int (33 : Int32)), (.int (60 : Int32)), (.int (62 : Int32)), (.int (61 : Int32)), (.int (60 : Int32)), (.int (62 : Int32)), (.int (33 : Int32))] (.int 0) := by
      have q := Arv.set Ar47 q47 Sz47 Nn47 Hs47 Gs47 (fits_nar_char _) W47 7 rfl (Nat.le_of_ble_eq_true rfl)
      rw [(by decide : nar .char (33 : Int32) = 33)] at q
      exact q
    refine own_step (T' := T47) (g' := (mkF m 54 #[.val (.int p1), .unset] [(.ref a4)])) (fun _ kk => st47 _ kk) ?_
    refine own_step (T' := T47) (g' := (mkF m 55 #[.val (.int p1), .val (.ref a4)] [])) (fun _ kk => XS.astoreN X47.here hx rfl (hb hby ddraw_54) rfl rfl (l' := #[.val (.int p1), .val (.ref a4)]) rfl kk) ?_
    refine own_step (T' := T47) (g' := (mkF m 56 #[.val (.int p1), .val (.ref a4)] [(.ref a4)])) (fun _ kk => XS.aloadN X47.here hx rfl (hb hby ddraw_55) rfl rfl kk) ?_
    refine own_step (T' := T47) (g' := (mkF m 57 #[.val (.int p1), .val (.ref a4)] [(.int p1), (.ref a4)])) (fun _ kk => XS.iloadN X47.here hx rfl (hb hby ddraw_56) rfl kk) ?_
    refine own_step (T' := T47) (g' := (mkF m 59 #[.val (.int p1), .val (.ref a4)] [(.int (7 : Int32)), (.int p1), (.ref a4)])) (fun _ kk => XS.bipush X47.here hx rfl (hb hby ddraw_57) kk) ?_
    refine own_step (T' := T47) (g' := (mkF m 60 #[.val (.int p1), .val (.ref a4)] [(.int (p1 &&& (7 : Int32))), (.ref a4)])) (fun _ kk => XS.iand X47.here hx rfl (hb hby ddraw_59) rfl kk) ?_
    refine own_step (T' := T47) (g' := (mkF m 61 #[.val (.int p1), .val (.ref a4)] [(.int ([(61 : Int32), (33 : Int32), (60 : Int32), (62 : Int32), (61 : Int32), (60 : Int32), (62 : Int32), (33 : Int32)].getD (p1 &&& (7 : Int32)).toNatClampNeg (0 : Int32)))])) (fun _ kk => own_caload X47 hx hZ e47 F51 (own_in8 p1) own_tbl.1 (g := (mkF m 60 #[.val (.int p1), .val (.ref a4)] [(.int (p1 &&& (7 : Int32))), (.ref a4)])) rfl rfl (hb hby ddraw_60) _ kk) ?_
    exact own_retN X47 hx hlk (t := .char) hret (by simp) (hb hby ddraw_61) e47 ⟨_, by rw [own_n8 own_tbl.2.1 own_tbl.2.2], F48, F50, own_tbl.2.1, own_tbl.2.2⟩ (by decide) (by decide)
theorem dsv_0 : decode jdk_42_method_149_code 0 = .ok (.aload_n 0, 1) := by decide +kernel
theorem dsv_1 : decode jdk_42_method_149_code 1 = .ok (.invokespecial 1, 3) := by decide +kernel
theorem dsv_4 : decode jdk_42_method_149_code 4 = .ok (.iload_n 3, 1) := by decide +kernel
theorem dsv_5 : decode jdk_42_method_149_code 5 = .ok (.ifCond .ne 22, 3) := by decide +kernel
theorem dsv_8 : decode jdk_42_method_149_code 8 = .ok (.aload_n 0, 1) := by decide +kernel
theorem dsv_9 : decode jdk_42_method_149_code 9 = .ok (.ldc 7, 2) := by decide +kernel
theorem dsv_11 : decode jdk_42_method_149_code 11 = .ok (.getfield 9, 3) := by decide +kernel
theorem dsv_14 : decode jdk_42_method_149_code 14 = .ok (.putfield 9, 3) := by decide +kernel
theorem dsv_17 : decode jdk_42_method_149_code 17 = .ok (.aload_n 0, 1) := by decide +kernel
theorem dsv_18 : decode jdk_42_method_149_code 18 = .ok (.ldc 7, 2) := by decide +kernel
theorem dsv_20 : decode jdk_42_method_149_code 20 = .ok (.getfield 15, 3) := by decide +kernel
theorem dsv_23 : decode jdk_42_method_149_code 23 = .ok (.putfield 15, 3) := by decide +kernel
theorem dsv_26 : decode jdk_42_method_149_code 26 = .ok (.return_, 1) := by decide +kernel
theorem dsv_27 : decode jdk_42_method_149_code 27 = .ok (.getstatic 38, 3) := by decide +kernel
theorem dsv_30 : decode jdk_42_method_149_code 30 = .ok (.ifCond .eq 28, 3) := by decide +kernel
theorem dsv_33 : decode jdk_42_method_149_code 33 = .ok (.aload_n 1, 1) := by decide +kernel
theorem dsv_34 : decode jdk_42_method_149_code 34 = .ok (.iload_n 2, 1) := by decide +kernel
theorem dsv_35 : decode jdk_42_method_149_code 35 = .ok (.iload_n 3, 1) := by decide +kernel
theorem dsv_36 : decode jdk_42_method_149_code 36 = .ok (.invokestatic 177, 3) := by decide +kernel
theorem dsv_39 : decode jdk_42_method_149_code 39 = .ok (.astore 5, 2) := by decide +kernel
theorem dsv_41 : decode jdk_42_method_149_code 41 = .ok (.aload_n 0, 1) := by decide +kernel
theorem dsv_42 : decode jdk_42_method_149_code 42 = .ok (.aload 5, 2) := by decide +kernel
theorem dsv_44 : decode jdk_42_method_149_code 44 = .ok (.iload_n 3, 1) := by decide +kernel
theorem dsv_45 : decode jdk_42_method_149_code 45 = .ok (.invokestatic 47, 3) := by decide +kernel
theorem dsv_48 : decode jdk_42_method_149_code 48 = .ok (.putfield 15, 3) := by decide +kernel
theorem dsv_51 : decode jdk_42_method_149_code 51 = .ok (.aload_n 0, 1) := by decide +kernel
theorem dsv_52 : decode jdk_42_method_149_code 52 = .ok (.aload 5, 2) := by decide +kernel
theorem dsv_54 : decode jdk_42_method_149_code 54 = .ok (.putfield 9, 3) := by decide +kernel
theorem dsv_57 : decode jdk_42_method_149_code 57 = .ok (.return_, 1) := by decide +kernel
theorem dsv_58 : decode jdk_42_method_149_code 58 = .ok (.aload_n 0, 1) := by decide +kernel
theorem dsv_59 : decode jdk_42_method_149_code 59 = .ok (.iconst 1, 1) := by decide +kernel
theorem dsv_60 : decode jdk_42_method_149_code 60 = .ok (.putfield 15, 3) := by decide +kernel
theorem dsv_63 : decode jdk_42_method_149_code 63 = .ok (.aload_n 0, 1) := by decide +kernel
theorem dsv_64 : decode jdk_42_method_149_code 64 = .ok (.aload_n 1, 1) := by decide +kernel
theorem dsv_65 : decode jdk_42_method_149_code 65 = .ok (.iload_n 2, 1) := by decide +kernel
theorem dsv_66 : decode jdk_42_method_149_code 66 = .ok (.iload_n 3, 1) := by decide +kernel
theorem dsv_67 : decode jdk_42_method_149_code 67 = .ok (.invokestatic 180, 3) := by decide +kernel
theorem dsv_70 : decode jdk_42_method_149_code 70 = .ok (.putfield 9, 3) := by decide +kernel
theorem dsv_73 : decode jdk_42_method_149_code 73 = .ok (.return_, 1) := by decide +kernel
set_option maxRecDepth 65536 in
set_option maxHeartbeats 40000000 in
theorem rm_sv (l : Launch) (Z : State) (a0 : Array Value) (hw : ∀ d ∈ tables_1, d.before a0 Z = true) (a1 b2 : Addr) (h0 : Heap) (O0 : Old Z Z.heap.size h0) (O1 : own_Obj Z h0 a1 "java/lang/String") (g1 : Z.heap.size ≤ a1) :
    own_ConW l Z (fun vm => CHv Z consts_1 vm h0 ∧ Safe Z consts_1 vm h0 a1) (⟨"java/lang/String", "<init>", "([CIILjava/lang/Void;)V"⟩ : MethodName) jdk_42_method_149_code 6 none ({ frames := 1, cells := 2, slots := 4, locals := 12 } : Room) #[(.ref a1), (.ref b2), (.int (0 : Int32)), (.int (0 : Int32)), .null] h0 (fun v h L => v = none ∧ Fr Z.heap.size L ∧ Keep h0 h [a1] ∧ own_Str Z h a1 []) := by
  refine own_conW (ls := #[.val (.ref a1), .val (.ref b2), .val (.int (0 : Int32)), .val (.int (0 : Int32)), .val .null, .unset]) (pn_java_lang_String) (fun m => by first | (simp [entryFrame, mkF, argsToLocals, Value.category]; done) | rfl) ?_
  intro p e s m below meth c s₁ hx hby hml0 hown0 hnm0 hret0 hlk hZ X0 e0 hS0 hJ
  have hml : c.maxLocals = 6 := hml0
  have hown : s.vm.findClass "java/lang/String" = some m.cls := hown0
  have hnm : meth.name = "<init>" := hnm0
  have hret : meth.sig.returnType = none := hret0
  have F52 := Fr.nil Z.heap.size
  have F53 := Keep.refl h0 []
  have F54 := Keep.refl h0 [a1]
  refine own_step (T' := s₁) (g' := (mkF m 1 #[.val (.ref a1), .val (.ref b2), .val (.int (0 : Int32)), .val (.int (0 : Int32)), .val .null, .unset] [(.ref a1)])) (fun _ kk => XS.aloadN X0.here hx rfl (hb hby dsv_0) rfl rfl kk) ?_
  obtain ⟨T55, X55, e55, st55⟩ := initO X0 hx hZ hown (w15 hw) (w16 hw) (w17 hw) e0 (g := (mkF m 1 #[.val (.ref a1), .val (.ref b2), .val (.int (0 : Int32)), .val (.int (0 : Int32)), .val .null, .unset] [(.ref a1)])) rfl (by rw [hml]; rfl) rfl (hb hby dsv_1) (by decide) (W := 0) (by show 2 * 0 + _ ≤ _; first | exact Nat.le_of_eq rfl | simp [own_cref own_of_ref]) (by decide)
  refine own_step (T' := T55) (g' := (mkF m 4 #[.val (.ref a1), .val (.ref b2), .val (.int (0 : Int32)), .val (.int (0 : Int32)), .val .null, .unset] [])) (fun _ kk => st55 _ kk) ?_
  refine own_step (T' := T55) (g' := (mkF m 5 #[.val (.ref a1), .val (.ref b2), .val (.int (0 : Int32)), .val (.int (0 : Int32)), .val .null, .unset] [(.int (0 : Int32))])) (fun _ kk => XS.iloadN X55.here hx rfl (hb hby dsv_4) rfl kk) ?_
  refine own_step (T' := T55) (g' := (mkF m 8 #[.val (.ref a1), .val (.ref b2), .val (.int (0 : Int32)), .val (.int (0 : Int32)), .val .null, .unset] [])) (fun _ kk => XS.ifNo X55.here hx rfl (hb hby dsv_5) rfl ((if0 _ _).trans (teq rfl).2) kk) ?_
  refine own_step (T' := T55) (g' := (mkF m 9 #[.val (.ref a1), .val (.ref b2), .val (.int (0 : Int32)), .val (.int (0 : Int32)), .val .null, .unset] [(.ref a1)])) (fun _ kk => XS.aloadN X55.here hx rfl (hb hby dsv_8) rfl rfl kk) ?_
  obtain ⟨sa56, T56, h56, k156, sb56, kb56, X56, e56, E56, hS56, hk56, hZ56, ho56, Ex56, Co56, Va56, Ar56, la56, lb56, hC56, Li56, hne56, st56⟩ := ldcCH X55 hx hZ hown (w18 hw) (own_strAtoms hw) e55 hS0 (Nat.zero_le _) (own_EW hw) (by decide) hJ.1 (vs := []) (z := 0) ⟨by decide, rfl⟩ (by decide) (by decide) (g := (mkF m 9 #[.val (.ref a1), .val (.ref b2), .val (.int (0 : Int32)), .val (.int (0 : Int32)), .val .null, .unset] [(.ref a1)])) rfl (hb hby dsv_9) (n := 0) (by decide) (by decide) (by decide) (by decide)
  have ns57 := hne56 _ (CHr.safe hC56 O1.lt hJ.2)
  have F58 := O1.ext E56
  have F59 := Nat.le_trans (Nat.zero_le _) E56.1
  have F60 := O0.ext E56
  have F61 := F54.ext E56
  refine own_step (T' := T56) (g' := (mkF m 11 #[.val (.ref a1), .val (.ref b2), .val (.int (0 : Int32)), .val (.int (0 : Int32)), .val .null, .unset] [(.ref sa56), (.ref a1)])) (fun _ kk => st56 _ kk) ?_
  obtain ⟨T62, X62, e62, st62⟩ := getF X56 hx hZ56 ho56 (host := "") (Or.inl (w24 hw)) Via.refl e56 Va56 (g := (mkF m 11 #[.val (.ref a1), .val (.ref b2), .val (.int (0 : Int32)), .val (.int (0 : Int32)), .val .null, .unset] [(.ref sa56), (.ref a1)])) rfl rfl (hb hby dsv_11)
  refine own_step (T' := T62) (g' := (mkF m 14 #[.val (.ref a1), .val (.ref b2), .val (.int (0 : Int32)), .val (.int (0 : Int32)), .val .null, .unset] [(.ref sb56), (.ref a1)])) (fun _ kk => st62 _ kk) ?_
  obtain ⟨u63, Fu63⟩ := F58.fld (w6 hw) (Or.inr (w20 hw) : Laid Z a0 "java/lang/String" "java/lang/String" "value" "[B")
  obtain ⟨T63, h63, X63, e63, W63, st63⟩ := putF X62 hx hZ56 ho56 (host := "") (Or.inl (w24 hw)) Via.refl e62 Fu63 F58.1 (Or.inr ⟨(w20 hw), rfl, hnm⟩) (w6 hw) (ty := (.array .byte)) (by decide) rfl rfl (g := (mkF m 14 #[.val (.ref a1), .val (.ref b2), .val (.int (0 : Int32)), .val (.int (0 : Int32)), .val .null, .unset] [(.ref sb56), (.ref a1)])) rfl rfl (hb hby dsv_14)
  have F64 := Fr.snoc X63 F52 g1
  have F65 := F58.wr W63
  have F66 := Co56.other W63 (Or.inl (Ne.symm ns57.1))
  have F67 := Va56.other W63 (Or.inl (Ne.symm ns57.1))
  have F68 := Ar56.other W63 (Ne.symm ns57.2)
  have F69 := (Nat.le_trans hk56 (Nat.le_of_eq (Wr.size W63).symm))
  have F70 := F60.wr W63 g1
  have F71 := F61.wr W63 (Or.inl (List.mem_of_getElem? (i := 0) rfl))
  have F72 : Fld Z h63 a1 "java/lang/String" "value" "[B" (.ref sb56) := Fu63.same W63
  refine own_step (T' := T63) (g' := (mkF m 17 #[.val (.ref a1), .val (.ref b2), .val (.int (0 : Int32)), .val (.int (0 : Int32)), .val .null, .unset] [])) (fun _ kk => st63 _ kk) ?_
  refine own_step (T' := T63) (g' := (mkF m 18 #[.val (.ref a1), .val (.ref b2), .val (.int (0 : Int32)), .val (.int (0 : Int32)), .val .null, .unset] [(.ref a1)])) (fun _ kk => XS.aloadN X63.here hx rfl (hb hby dsv_17) rfl rfl kk) ?_
  refine own_step (T' := T63) (g' := (mkF m 20 #[.val (.ref a1), .val (.ref b2), .val (.int (0 : Int32)), .val (.int (0 : Int32)), .val .null, .unset] [(.ref sa56), (.ref a1)])) (fun _ kk => ldcAgain X63 hx hZ56 ho56 (w18 hw) Li56 (g := (mkF m 18 #[.val (.ref a1), .val (.ref b2), .val (.int (0 : Int32)), .val (.int (0 : Int32)), .val .null, .unset] [(.ref a1)])) rfl (hb hby dsv_18) _ kk) ?_
  obtain ⟨T73, X73, e73, st73⟩ := getF X63 hx hZ56 ho56 (host := "") (Or.inl (w25 hw)) Via.refl e63 F66 (g := (mkF m 20 #[.val (.ref a1), .val (.ref b2), .val (.int (0 : Int32)), .val (.int (0 : Int32)), .val .null, .unset] [(.ref sa56), (.ref a1)])) rfl rfl (hb hby dsv_20)
  refine own_step (T' := T73) (g' := (mkF m 23 #[.val (.ref a1), .val (.ref b2), .val (.int (0 : Int32)), .val (.int (0 : Int32)), .val .null, .unset] [(.int 0), (.ref a1)])) (fun _ kk => st73 _ kk) ?_
  obtain ⟨u74, Fu74⟩ := F65.fld (w6 hw) (Or.inr (w21 hw) : Laid Z a0 "java/lang/String" "java/lang/String" "coder" "B")
  obtain ⟨T74, h74, X74, e74, W74, st74⟩ := putF X73 hx hZ56 ho56 (host := "") (Or.inl (w25 hw)) Via.refl e73 Fu74 F65.1 (Or.inr ⟨(w21 hw), rfl, hnm⟩) (w6 hw) (ty := .byte) (by decide) rfl rfl (g := (mkF m 23 #[.val (.ref a1), .val (.ref b2), .val (.int (0 : Int32)), .val (.int (0 : Int32)), .val .null, .unset] [(.int 0), (.ref a1)])) rfl rfl (hb hby dsv_23)
  have F75 := Fr.snoc X74 F64 g1
  have F76 := F65.wr W74
  have F77 := F66.other W74 (Or.inl (Ne.symm ns57.1))
  have F78 := F67.other W74 (Or.inl (Ne.symm ns57.1))
  have F79 := F68.other W74 (Ne.symm ns57.2)
  have F80 := F72.other W74 (Or.inr (slot_ne (Or.inr (w20 hw) : Laid Z a0 "java/lang/String" "java/lang/String" "value" "[B") (Or.inr (w21 hw) : Laid Z a0 "java/lang/String" "java/lang/String" "coder" "B") (by decide) (t := (.array .byte)) (t' := .byte) (by decide) (by decide)))
  have F81 := (Nat.le_trans F69 (Nat.le_of_eq (Wr.size W74).symm))
  have F82 := F70.wr W74 g1
  have F83 := F71.wr W74 (Or.inl (List.mem_of_getElem? (i := 0) rfl))
  have F84 : Fld Z h74 a1 "java/lang/String" "coder" "B" (.int 0) := Fu74.same W74
  refine own_step (T' := T74) (g' := (mkF m 26 #[.val (.ref a1), .val (.ref b2), .val (.int (0 : Int32)), .val (.int (0 : Int32)), .val .null, .unset] [])) (fun _ kk => st74 _ kk) ?_
  exact own_retVW X74 hx hS56 F81 hlk hret (hb hby dsv_26) e74 ⟨rfl, F75, F83, _, _, F76.1, F84, F80, F79⟩ (by decide) (by decide)
theorem dsc_0 : decode jdk_42_method_3_code 0 = .ok (.aload_n 0, 1) := by decide +kernel
theorem dsc_1 : decode jdk_42_method_3_code 1 = .ok (.aload_n 1, 1) := by decide +kernel
theorem dsc_2 : decode jdk_42_method_3_code 2 = .ok (.iconst 0, 1) := by decide +kernel
theorem dsc_3 : decode jdk_42_method_3_code 3 = .ok (.aload_n 1, 1) := by decide +kernel
theorem dsc_4 : decode jdk_42_method_3_code 4 = .ok (.arraylength, 1) := by decide +kernel
theorem dsc_5 : decode jdk_42_method_3_code 5 = .ok (.aconst_null, 1) := by decide +kernel
theorem dsc_6 : decode jdk_42_method_3_code 6 = .ok (.invokespecial 27, 3) := by decide +kernel
theorem dsc_9 : decode jdk_42_method_3_code 9 = .ok (.return_, 1) := by decide +kernel
set_option maxRecDepth 65536 in
set_option maxHeartbeats 40000000 in
theorem rm_sc (l : Launch) (Z : State) (a0 : Array Value) (hw : ∀ d ∈ tables_1, d.before a0 Z = true) (a1 b2 : Addr) (kc : ClassId) (h0 : Heap) (O0 : Old Z Z.heap.size h0) (O1 : own_Obj Z h0 a1 "java/lang/String") (g1 : Z.heap.size ≤ a1) (A2 : Arv Z h0 b2 kc .char (0 : Int32) [] (.int 0)) :
    own_ConW l Z (fun vm => CHv Z consts_1 vm h0 ∧ Safe Z consts_1 vm h0 a1) (⟨"java/lang/String", "<init>", "([C)V"⟩ : MethodName) jdk_42_method_3_code 2 none ({ frames := 2, cells := 2, slots := 4, locals := 29 } : Room) #[(.ref a1), (.ref b2)] h0 (fun v h L => v = none ∧ Fr Z.heap.size L ∧ Keep h0 h [a1] ∧ own_Str Z h a1 []) := by
  refine own_conW (ls := #[.val (.ref a1), .val (.ref b2)]) (pn_java_lang_String) (fun m => by first | (simp [entryFrame, mkF, argsToLocals, Value.category]; done) | rfl) ?_
  intro p e s m below meth c s₁ hx hby hml0 hown0 hnm0 hret0 hlk hZ X0 e0 hS0 hJ
  have hml : c.maxLocals = 2 := hml0
  have hown : s.vm.findClass "java/lang/String" = some m.cls := hown0
  have hnm : meth.name = "<init>" := hnm0
  have hret : meth.sig.returnType = none := hret0
  have F85 := Fr.nil Z.heap.size
  have F86 := Keep.refl h0 []
  have F87 := Keep.refl h0 [a1]
  refine own_step (T' := s₁) (g' := (mkF m 1 #[.val (.ref a1), .val (.ref b2)] [(.ref a1)])) (fun _ kk => XS.aloadN X0.here hx rfl (hb hby dsc_0) rfl rfl kk) ?_
  refine own_step (T' := s₁) (g' := (mkF m 2 #[.val (.ref a1), .val (.ref b2)] [(.ref b2), (.ref a1)])) (fun _ kk => XS.aloadN X0.here hx rfl (hb hby dsc_1) rfl rfl kk) ?_
  refine own_step (T' := s₁) (g' := (mkF m 3 #[.val (.ref a1), .val (.ref b2)] [(.int (0 : Int32)), (.ref b2), (.ref a1)])) (fun _ kk => XS.iconst X0.here hx rfl (hb hby dsc_2) kk) ?_
  refine own_step (T' := s₁) (g' := (mkF m 4 #[.val (.ref a1), .val (.ref b2)] [(.ref b2), (.int (0 : Int32)), (.ref b2), (.ref a1)])) (fun _ kk => XS.aloadN X0.here hx rfl (hb hby dsc_3) rfl rfl kk) ?_
  refine own_step (T' := s₁) (g' := (mkF m 5 #[.val (.ref a1), .val (.ref b2)] [(.int (0 : Int32)), (.int (0 : Int32)), (.ref b2), (.ref a1)])) (fun _ kk => own_alen X0 hx hZ e0 A2 (g := (mkF m 4 #[.val (.ref a1), .val (.ref b2)] [(.ref b2), (.int (0 : Int32)), (.ref b2), (.ref a1)])) rfl rfl (hb hby dsc_4) _ kk) ?_
  refine own_step (T' := s₁) (g' := (mkF m 6 #[.val (.ref a1), .val (.ref b2)] [.null, (.int (0 : Int32)), (.int (0 : Int32)), (.ref b2), (.ref a1)])) (fun _ kk => XS.aconstNull X0.here hx rfl (hb hby dsc_5) kk) ?_
  obtain ⟨T88, L88, _, h88, X88, e88, hS88, hZ88, ho88, ⟨rfl, Nq, Kq, Sq⟩, st88⟩ := own_callCW X0 hx hZ hown hS0 (Nat.zero_le _) rfl (w11 hw) (w12 hw) (w14 hw) (w7 hw) (by decide) (a := a1) (g := (mkF m 6 #[.val (.ref a1), .val (.ref b2)] [.null, (.int (0 : Int32)), (.int (0 : Int32)), (.ref b2), (.ref a1)])) rfl (by rw [hml]; rfl) (argsL := [(.ref b2), (.int (0 : Int32)), (.int (0 : Int32)), .null]) (rest := []) (rm_sv l Z a0 hw a1 b2 _ O0 O1 g1) (fun m meth c A Y => ⟨(CHv.at Y hZ (own_EW hw) hJ.1).1, (CHv.at Y hZ (own_EW hw) hJ.1).safe O1.lt hJ.2⟩) e0 pd___CIILjava_lang_Void__V rfl rfl (W := 0) (by show 2 * 0 + _ ≤ _; first | exact Nat.le_of_eq rfl | simp [own_cref own_of_ref]) (hb hby dsc_6) (by decide) (by decide) (by decide) (by decide)
  have F89 := Fr.app F85 Nq
  have F90 := Nat.le_trans (Nat.zero_le _) Kq.1
  have F91 := O0.keep Kq (allS g1 all0)
  have F92 := F87.trans Kq (allS (Or.inl (List.mem_of_getElem? (i := 0) rfl)) all0)
  refine own_step (T' := T88) (g' := (mkF m 9 #[.val (.ref a1), .val (.ref b2)] [])) (fun _ kk => st88 _ kk) ?_
  exact own_retVW X88 hx hS88 (Nat.le_refl _) hlk hret (hb hby dsc_9) e88 ⟨rfl, F89, F92, Sq⟩ (by decide) (by decide)
theorem dval_0 : decode prog_21_method_1_code 0 = .ok (.getstatic 22, 3) := by decide +kernel
theorem dval_3 : decode prog_21_method_1_code 3 = .ok (.invokevirtual 26, 3) := by decide +kernel
theorem dval_6 : decode prog_21_method_1_code 6 = .ok (.checkcast 27, 3) := by decide +kernel
theorem dval_9 : decode prog_21_method_1_code 9 = .ok (.areturn, 1) := by decide +kernel
set_option maxRecDepth 65536 in
set_option maxHeartbeats 40000000 in
theorem rm_val (l : Launch) (Z : State) (a0 : Array Value) (hw : ∀ d ∈ tables_1, d.before a0 Z = true) (va : Addr) (kv : ClassId) (o0 o1 o2 o3 o4 o5 : Addr) (h0 : Heap) (O0 : Old Z Z.heap.size h0) (SV : Sta Z Z.heap "com/example/lakeledger/lakeledger/Filter$Operator" "$VALUES" "[Lcom/example/lakeledger/lakeledger/Filter$Operator;" (.ref va)) (AV : Arv Z Z.heap va kv (.object "com/example/lakeledger/lakeledger/Filter$Operator") (6 : Int32) [(.ref o0), (.ref o1), (.ref o2), (.ref o3), (.ref o4), (.ref o5)] .null) (EV : Exa Z Z.heap va "[Lcom/example/lakeledger/lakeledger/Filter$Operator;") :
    own_Con l Z (⟨"com/example/lakeledger/lakeledger/Filter$Operator", "values", "()[Lcom/example/lakeledger/lakeledger/Filter$Operator;"⟩ : MethodName) prog_21_method_1_code 0 (some (.array (.object "com/example/lakeledger/lakeledger/Filter$Operator"))) ({ frames := 1, cells := 1, slots := 6, locals := 14 } : Room) #[] h0 (fun v h L => ∃ b, v = some (.ref b) ∧ Fr Z.heap.size L ∧ Keep h0 h [] ∧ Arv Z h b kv (.object "com/example/lakeledger/lakeledger/Filter$Operator") (6 : Int32) [(.ref o0), (.ref o1), (.ref o2), (.ref o3), (.ref o4), (.ref o5)] .null) := by
  refine own_con (ls := #[]) (pn_com_example_lakeledger_lakeledger_Filter_Operator) (fun m => by first | (simp [entryFrame, mkF, argsToLocals, Value.category]; done) | rfl) ?_
  intro p e s m below meth c s₁ hx hby hml0 hown0 hnm0 hret0 hlk hZ X0 e0
  have hml : c.maxLocals = 0 := hml0
  have hown : s.vm.findClass "com/example/lakeledger/lakeledger/Filter$Operator" = some m.cls := hown0
  have hnm : meth.name = "values" := hnm0
  have hret : meth.sig.returnType = (some (.array (.object "com/example/lakeledger/lakeledger/Filter$Operator"))) := hret0
  have F93 := Fr.nil Z.heap.size
  have F94 := Keep.refl h0 []
  obtain ⟨T95, X95, e95, st95⟩ := getS (host := "") X0 hx hZ hown (w33 hw) Via.refl e0 (SV.ext O0.2) (g := (mkF m 0 #[] [])) rfl (hb hby dval_0)
  refine own_step (T' := T95) (g' := (mkF m 3 #[] [(.ref va)])) (fun _ kk => st95 _ kk) ?_
  obtain ⟨T96, h96, X96, e96, E96, A96, Ex96, st96⟩ := cloneH X95 hx hZ hown (w35 hw) (w36 hw) (w40 hw) (w38 hw) (w39 hw) (w41 hw) e95 (AV.ext O0.2).arh (EV.ext O0.2) (g := (mkF m 3 #[] [(.ref va)])) rfl (by rw [hml]; rfl) rfl (hb hby dval_3) (by decide) (W := 0) (cap := 6) (by show 2 * 0 + _ ≤ _; exact Nat.le_of_eq rfl) (by decide) (by decide) (by decide) (by decide)
  obtain ⟨a97, g96⟩ : ∃ z, z = h0.size := ⟨_, rfl⟩
  rw [← g96] at A96 Ex96 st96
  have F98 := O0.ext E96
  have F99 := F94.ext E96
  refine own_step (T' := T96) (g' := (mkF m 6 #[] [(.ref a97)])) (fun _ kk => st96 _ kk) ?_
  obtain ⟨T100, X100, e100, st100⟩ := castY X96 hx hZ hown (w49 hw) e96 (Ins.self Ex96) (g := (mkF m 6 #[] [(.ref a97)])) rfl rfl (hb hby dval_6)
  refine own_step (T' := T100) (g' := (mkF m 9 #[] [(.ref a97)])) (fun _ kk => st100 _ kk) ?_
  exact own_retA X100 hx hlk (t := (.array (.object "com/example/lakeledger/lakeledger/Filter$Operator"))) hret rfl rfl rfl (hb hby dval_9) e100 ⟨_, rfl, F93, F99, A96⟩ (by decide) (by decide)
theorem dof_0 : decode prog_21_method_4_code 0 = .ok (.invokestatic 45, 3) := by decide +kernel
theorem dof_3 : decode prog_21_method_4_code 3 = .ok (.astore_n 1, 1) := by decide +kernel
theorem dof_4 : decode prog_21_method_4_code 4 = .ok (.aload_n 1, 1) := by decide +kernel
theorem dof_5 : decode prog_21_method_4_code 5 = .ok (.arraylength, 1) := by decide +kernel
theorem dof_6 : decode prog_21_method_4_code 6 = .ok (.istore_n 2, 1) := by decide +kernel
theorem dof_7 : decode prog_21_method_4_code 7 = .ok (.iconst 0, 1) := by decide +kernel
theorem dof_8 : decode prog_21_method_4_code 8 = .ok (.istore_n 3, 1) := by decide +kernel
theorem dof_9 : decode prog_21_method_4_code 9 = .ok (.iload_n 3, 1) := by decide +kernel
theorem dof_10 : decode prog_21_method_4_code 10 = .ok (.iload_n 2, 1) := by decide +kernel
theorem dof_11 : decode prog_21_method_4_code 11 = .ok (.if_icmp .ge 29, 3) := by decide +kernel
theorem dof_14 : decode prog_21_method_4_code 14 = .ok (.aload_n 1, 1) := by decide +kernel
theorem dof_15 : decode prog_21_method_4_code 15 = .ok (.iload_n 3, 1) := by decide +kernel
theorem dof_16 : decode prog_21_method_4_code 16 = .ok (.aaload, 1) := by decide +kernel
theorem dof_17 : decode prog_21_method_4_code 17 = .ok (.astore 4, 2) := by decide +kernel
theorem dof_19 : decode prog_21_method_4_code 19 = .ok (.aload 4, 2) := by decide +kernel
theorem dof_21 : decode prog_21_method_4_code 21 = .ok (.getfield 41, 3) := by decide +kernel
theorem dof_24 : decode prog_21_method_4_code 24 = .ok (.aload_n 0, 1) := by decide +kernel
theorem dof_25 : decode prog_21_method_4_code 25 = .ok (.invokevirtual 49, 3) := by decide +kernel
theorem dof_28 : decode prog_21_method_4_code 28 = .ok (.ifCond .eq 6, 3) := by decide +kernel
theorem dof_31 : decode prog_21_method_4_code 31 = .ok (.aload 4, 2) := by decide +kernel
theorem dof_33 : decode prog_21_method_4_code 33 = .ok (.areturn, 1) := by decide +kernel
theorem dof_34 : decode prog_21_method_4_code 34 = .ok (.iinc 3 1, 3) := by decide +kernel
theorem dof_37 : decode prog_21_method_4_code 37 = .ok (.goto (-28), 3) := by decide +kernel
theorem dof_40 : decode prog_21_method_4_code 40 = .ok (.aconst_null, 1) := by decide +kernel
theorem dof_41 : decode prog_21_method_4_code 41 = .ok (.areturn, 1) := by decide +kernel
set_option maxRecDepth 65536 in
set_option maxHeartbeats 40000000 in
theorem rm_of (l : Launch) (Z : State) (a0 : Array Value) (hw : ∀ d ∈ tables_1, d.before a0 Z = true) (a1 va : Addr) (kv : ClassId) (o0 o1 o2 o3 o4 o5 : Addr) (y0 y1 y2 y3 y4 y5 : Addr) (cs : List Int32) (zc : Int32) (h0 : Heap) (O0 : Old Z Z.heap.size h0) (hstr : own_Str Z h0 a1 cs) (hB : own_B cs) (hl : cs.length ≤ 4000) (SV : Sta Z Z.heap "com/example/lakeledger/lakeledger/Filter$Operator" "$VALUES" "[Lcom/example/lakeledger/lakeledger/Filter$Operator;" (.ref va)) (AV : Arv Z Z.heap va kv (.object "com/example/lakeledger/lakeledger/Filter$Operator") (6 : Int32) [(.ref o0), (.ref o1), (.ref o2), (.ref o3), (.ref o4), (.ref o5)] .null) (EV : Exa Z Z.heap va "[Lcom/example/lakeledger/lakeledger/Filter$Operator;") (G0 : Fld Z Z.heap o0 "com/example/lakeledger/lakeledger/Filter$Operator" "symbol" "Ljava/lang/String;" (.ref y0)) (G1 : Fld Z Z.heap o1 "com/example/lakeledger/lakeledger/Filter$Operator" "symbol" "Ljava/lang/String;" (.ref y1)) (G2 : Fld Z Z.heap o2 "com/example/lakeledger/lakeledger/Filter$Operator" "symbol" "Ljava/lang/String;" (.ref y2)) (G3 : Fld Z Z.heap o3 "com/example/lakeledger/lakeledger/Filter$Operator" "symbol" "Ljava/lang/String;" (.ref y3)) (G4 : Fld Z Z.heap o4 "com/example/lakeledger/lakeledger/Filter$Operator" "symbol" "Ljava/lang/String;" (.ref y4)) (G5 : Fld Z Z.heap o5 "com/example/lakeledger/lakeledger/Filter$Operator" "symbol" "Ljava/lang/String;" (.ref y5)) (Y0 : own_Str Z Z.heap y0 [(61 : Int32)]) (Y1 : own_Str Z Z.heap y1 [(33 : Int32), (61 : Int32)]) (Y2 : own_Str Z Z.heap y2 [(60 : Int32)]) (Y3 : own_Str Z Z.heap y3 [(60 : Int32), (61 : Int32)]) (Y4 : own_Str Z Z.heap y4 [(62 : Int32)]) (Y5 : own_Str Z Z.heap y5 [(62 : Int32), (61 : Int32)]) (SC : Sta Z Z.heap "java/lang/String" "COMPACT_STRINGS" "Z" (.int zc)) (hzc : ¬ zc = (0 : Int32)) :
    own_Con l Z (⟨"com/example/lakeledger/lakeledger/Filter$Operator", "of", "(Ljava/lang/String;)Lcom/example/lakeledger/lakeledger/Filter$Operator;"⟩ : MethodName) prog_21_method_4_code 5 (some (.object "com/example/lakeledger/lakeledger/Filter$Operator")) ({ frames := 2, cells := 1, slots := 6, locals := 28 } : Room) #[(.ref a1)] h0 (fun v h L => v = some (own_of cs o0 o1 o2 o3 o4 o5) ∧ Fr Z.heap.size L ∧ Keep h0 h []) := by
  refine own_con (ls := #[.val (.ref a1), .unset, .unset, .unset, .unset]) (pn_com_example_lakeledger_lakeledger_Filter_Operator) (fun m => by first | (simp [entryFrame, mkF, argsToLocals, Value.category]; done) | rfl) ?_
  intro p e s m below meth c s₁ hx hby hml0 hown0 hnm0 hret0 hlk hZ X0 e0
  have hml : c.maxLocals = 5 := hml0
  have hown : s.vm.findClass "com/example/lakeledger/lakeledger/Filter$Operator" = some m.cls := hown0
  have hnm : meth.name = "of" := hnm0
  have hret : meth.sig.returnType = (some (.object "com/example/lakeledger/lakeledger/Filter$Operator")) := hret0
  have F101 := Fr.nil Z.heap.size
  have F102 := Keep.refl h0 []
  obtain ⟨T103, L103, _, h103, X103, e103, ⟨bb, rfl, Nq, Kq, Aq⟩, st103⟩ := own_callS X0 hx hZ hown (w30 hw) (w31 hw) (w32 hw) (w28 hw) (by decide) (g := (mkF m 0 #[.val (.ref a1), .unset, .unset, .unset, .unset] [])) rfl (by rw [hml]; rfl) (argsL := []) (rest := []) (rm_val l Z a0 hw va kv o0 o1 o2 o3 o4 o5 _ O0 SV AV EV) e0 pd____Lcom_example_lakeledger_lakeledger_Filter_Operator_ rfl rfl (W := 0) (by show 2 * 0 + _ ≤ _; first | exact Nat.le_of_eq rfl | simp [own_cref own_of_ref]) (hb hby dof_0) (by decide) (by decide) (by decide) (by decide)
  have F104 := Fr.app F101 Nq
  have F105 := O0.keep Kq all0
  have F106 := F102.trans Kq all0
  refine own_step (T' := T103) (g' := (mkF m 3 #[.val (.ref a1), .unset, .unset, .unset, .unset] [(.ref bb)])) (fun _ kk => st103 _ kk) ?_
  obtain ⟨st0, kb0, Es, Cs, Vs, As⟩ := own_Str.keep0 hstr Kq
  have hb2 : ∀ c ∈ cs, ¬ c < 0 ∧ ¬ (65535 : Int32) < c := fun c hc => own_up (hB c hc)
  have hcod := StrChars.Road.codOf (cs := cs) rfl (fun c hc => (hB c hc).2)
  obtain ⟨t0, k0, Ey0, Cy0, Vy0, Ay0⟩ := Y0.ext F105.2
  have by0 : own_B [(61 : Int32)] := by intro c hc; revert c; decide
  have bz0 : ∀ c ∈ [(61 : Int32)], ¬ c < 0 ∧ ¬ (65535 : Int32) < c := fun c hc => own_up (by0 c hc)
  have hy0 := StrChars.Road.codOf (cs := [(61 : Int32)]) rfl (fun c hc => (by0 c hc).2)
  obtain ⟨t1, k1, Ey1, Cy1, Vy1, Ay1⟩ := Y1.ext F105.2
  have by1 : own_B [(33 : Int32), (61 : Int32)] := by intro c hc; revert c; decide
  have bz1 : ∀ c ∈ [(33 : Int32), (61 : Int32)], ¬ c < 0 ∧ ¬ (65535 : Int32) < c := fun c hc => own_up (by1 c hc)
  have hy1 := StrChars.Road.codOf (cs := [(33 : Int32), (61 : Int32)]) rfl (fun c hc => (by1 c hc).2)
  obtain ⟨t2, k2, Ey2, Cy2, Vy2, Ay2⟩ := Y2.ext F105.2
  have by2 : own_B [(60 : Int32)] := by intro c hc; revert c; decide
  have bz2 : ∀ c ∈ [(60 : Int32)], ¬ c < 0 ∧ ¬ (65535 : Int32) < c := fun c hc => own_up (by2 c hc)
  have hy2 := StrChars.Road.codOf (cs := [(60 : Int32)]) rfl (fun c hc => (by2 c hc).2)
  obtain ⟨t3, k3, Ey3, Cy3, Vy3, Ay3⟩ := Y3.ext F105.2
  have by3 : own_B [(60 : Int32), (61 : Int32)] := by intro c hc; revert c; decide
  have bz3 : ∀ c ∈ [(60 : Int32), (61 : Int32)], ¬ c < 0 ∧ ¬ (65535 : Int32) < c := fun c hc => own_up (by3 c hc)
  have hy3 := StrChars.Road.codOf (cs := [(60 : Int32), (61 : Int32)]) rfl (fun c hc => (by3 c hc).2)
  obtain ⟨t4, k4, Ey4, Cy4, Vy4, Ay4⟩ := Y4.ext F105.2
  have by4 : own_B [(62 : Int32)] := by intro c hc; revert c; decide
  have bz4 : ∀ c ∈ [(62 : Int32)], ¬ c < 0 ∧ ¬ (65535 : Int32) < c := fun c hc => own_up (by4 c hc)
  have hy4 := StrChars.Road.codOf (cs := [(62 : Int32)]) rfl (fun c hc => (by4 c hc).2)
  obtain ⟨t5, k5, Ey5, Cy5, Vy5, Ay5⟩ := Y5.ext F105.2
  have by5 : own_B [(62 : Int32), (61 : Int32)] := by intro c hc; revert c; decide
  have bz5 : ∀ c ∈ [(62 : Int32), (61 : Int32)], ¬ c < 0 ∧ ¬ (65535 : Int32) < c := fun c hc => own_up (by5 c hc)
  have hy5 := StrChars.Road.codOf (cs := [(62 : Int32), (61 : Int32)]) rfl (fun c hc => (by5 c hc).2)
  refine own_step (T' := T103) (g' := (mkF m 4 #[.val (.ref a1), .val (.ref bb), .unset, .unset, .unset] [])) (fun _ kk => XS.astoreN X103.here hx rfl (hb hby dof_3) rfl rfl (l' := #[.val (.ref a1), .val (.ref bb), .unset, .unset, .unset]) rfl kk) ?_
  refine own_step (T' := T103) (g' := (mkF m 5 #[.val (.ref a1), .val (.ref bb), .unset, .unset, .unset] [(.ref bb)])) (fun _ kk => XS.aloadN X103.here hx rfl (hb hby dof_4) rfl rfl kk) ?_
  refine own_step (T' := T103) (g' := (mkF m 6 #[.val (.ref a1), .val (.ref bb), .unset, .unset, .unset] [(.int (6 : Int32))])) (fun _ kk => own_alen X103 hx hZ e103 Aq (g := (mkF m 5 #[.val (.ref a1), .val (.ref bb), .unset, .unset, .unset] [(.ref bb)])) rfl rfl (hb hby dof_5) _ kk) ?_
  refine own_step (T' := T103) (g' := (mkF m 7 #[.val (.ref a1), .val (.ref bb), .val (.int (6 : Int32)), .unset, .unset] [])) (fun _ kk => XS.istoreN X103.here hx rfl (hb hby dof_6) rfl (l' := #[.val (.ref a1), .val (.ref bb), .val (.int (6 : Int32)), .unset, .unset]) rfl kk) ?_
  refine own_step (T' := T103) (g' := (mkF m 8 #[.val (.ref a1), .val (.ref bb), .val (.int (6 : Int32)), .unset, .unset] [(.int (0 : Int32))])) (fun _ kk => XS.iconst X103.here hx rfl (hb hby dof_7) kk) ?_
  refine own_step (T' := T103) (g' := (mkF m 9 #[.val (.ref a1), .val (.ref bb), .val (.int (6 : Int32)), .val (.int (0 : Int32)), .unset] [])) (fun _ kk => XS.istoreN X103.here hx rfl (hb hby dof_8) rfl (l' := #[.val (.ref a1), .val (.ref bb), .val (.int (6 : Int32)), .val (.int (0 : Int32)), .unset]) rfl kk) ?_
  refine own_step (T' := T103) (g' := (mkF m 10 #[.val (.ref a1), .val (.ref bb), .val (.int (6 : Int32)), .val (.int (0 : Int32)), .unset] [(.int (0 : Int32))])) (fun _ kk => XS.iloadN X103.here hx rfl (hb hby dof_9) rfl kk) ?_
  refine own_step (T' := T103) (g' := (mkF m 11 #[.val (.ref a1), .val (.ref bb), .val (.int (6 : Int32)), .val (.int (0 : Int32)), .unset] [(.int (6 : Int32)), (.int (0 : Int32))])) (fun _ kk => XS.iloadN X103.here hx rfl (hb hby dof_10) rfl kk) ?_
  refine own_step (T' := T103) (g' := (mkF m 14 #[.val (.ref a1), .val (.ref bb), .val (.int (6 : Int32)), .val (.int (0 : Int32)), .unset] [])) (fun _ kk => XS.icmpNo X103.here hx rfl (hb hby dof_11) rfl (tlt (by decide)).2.1 kk) ?_
  refine own_step (T' := T103) (g' := (mkF m 15 #[.val (.ref a1), .val (.ref bb), .val (.int (6 : Int32)), .val (.int (0 : Int32)), .unset] [(.ref bb)])) (fun _ kk => XS.aloadN X103.here hx rfl (hb hby dof_14) rfl rfl kk) ?_
  refine own_step (T' := T103) (g' := (mkF m 16 #[.val (.ref a1), .val (.ref bb), .val (.int (6 : Int32)), .val (.int (0 : Int32)), .unset] [(.int (0 : Int32)), (.ref bb)])) (fun _ kk => XS.iloadN X103.here hx rfl (hb hby dof_15) rfl kk) ?_
  refine own_step (T' := T103) (g' := (mkF m 17 #[.val (.ref a1), .val (.ref bb), .val (.int (6 : Int32)), .val (.int (0 : Int32)), .unset] [(.ref o0)])) (fun _ kk => own_aaload X103 hx hZ e103 Aq rfl ⟨by decide, by decide⟩ rfl (g := (mkF m 16 #[.val (.ref a1), .val (.ref bb), .val (.int (6 : Int32)), .val (.int (0 : Int32)), .unset] [(.int (0 : Int32)), (.ref bb)])) rfl rfl (hb hby dof_16) _ kk) ?_
  refine own_step (T' := T103) (g' := (mkF m 19 #[.val (.ref a1), .val (.ref bb), .val (.int (6 : Int32)), .val (.int (0 : Int32)), .val (.ref o0)] [])) (fun _ kk => XS.astore X103.here hx rfl (hb hby dof_17) rfl rfl (l' := #[.val (.ref a1), .val (.ref bb), .val (.int (6 : Int32)), .val (.int (0 : Int32)), .val (.ref o0)]) rfl kk) ?_
  refine own_step (T' := T103) (g' := (mkF m 21 #[.val (.ref a1), .val (.ref bb), .val (.int (6 : Int32)), .val (.int (0 : Int32)), .val (.ref o0)] [(.ref o0)])) (fun _ kk => XS.aload X103.here hx rfl (hb hby dof_19) rfl rfl kk) ?_
  obtain ⟨T107, X107, e107, st107⟩ := getF X103 hx hZ hown (host := "") (Or.inl (w51 hw)) Via.refl e103 (G0.ext F105.2) (g := (mkF m 21 #[.val (.ref a1), .val (.ref bb), .val (.int (6 : Int32)), .val (.int (0 : Int32)), .val (.ref o0)] [(.ref o0)])) rfl rfl (hb hby dof_21)
  refine own_step (T' := T107) (g' := (mkF m 24 #[.val (.ref a1), .val (.ref bb), .val (.int (6 : Int32)), .val (.int (0 : Int32)), .val (.ref o0)] [(.ref y0)])) (fun _ kk => st107 _ kk) ?_
  refine own_step (T' := T107) (g' := (mkF m 25 #[.val (.ref a1), .val (.ref bb), .val (.int (6 : Int32)), .val (.int (0 : Int32)), .val (.ref o0)] [(.ref a1), (.ref y0)])) (fun _ kk => XS.aloadN X107.here hx rfl (hb hby dof_24) rfl rfl kk) ?_
  obtain ⟨T108, L108, vv108, h108, X108, e108, ⟨hv108, el108, eh108⟩, st108⟩ := own_bcallV (nc := 0) (ns := 0) (Q := fun v h' L => ((v = some (.int 1) ∧ [(61 : Int32)] = cs) ∨ (v = some (.int 0) ∧ ¬ [(61 : Int32)] = cs)) ∧ L = [] ∧ h' = h103) X107 hx hZ hown (w53 hw) (w54 hw) (w56 hw) (w55 hw) (by decide) Ey0 (g := (mkF m 25 #[.val (.ref a1), .val (.ref bb), .val (.int (6 : Int32)), .val (.int (0 : Int32)), .val (.ref o0)] [(.ref a1), (.ref y0)])) rfl (by rw [hml]; rfl) (argsL := [(.ref a1)]) (rest := []) (StrChars.Road.eqW (W := 0) hZ (own_hwsE hw) (kI := 4) (w6 hw) Ey0 Vy0 Cy0 Ay0 hy0 bz0 (by decide) Es Vs Cs As hcod hb2 hl (SC.ext F105.2) hzc (by decide) (by decide)) e107 pd__Ljava_lang_Object__Z rfl rfl (by show 2 * 0 + _ ≤ _; exact Nat.le_of_eq rfl) (hb hby dof_25) (by decide) (by decide)
  have F109 := own_frnil F104 el108
  have F110 := e108.trans eh108
  rcases hv108 with ⟨rfl, q0⟩ | ⟨rfl, q0⟩
  · refine own_step (T' := T108) (g' := (mkF m 28 #[.val (.ref a1), .val (.ref bb), .val (.int (6 : Int32)), .val (.int (0 : Int32)), .val (.ref o0)] [(.int (1 : Int32))])) (fun _ kk => st108 _ kk) ?_
    refine own_step (T' := T108) (g' := (mkF m 31 #[.val (.ref a1), .val (.ref bb), .val (.int (6 : Int32)), .val (.int (0 : Int32)), .val (.ref o0)] [])) (fun _ kk => XS.ifNo X108.here hx rfl (hb hby dof_28) rfl ((if0 _ _).trans (feq (by decide)).1) kk) ?_
    refine own_step (T' := T108) (g' := (mkF m 33 #[.val (.ref a1), .val (.ref bb), .val (.int (6 : Int32)), .val (.int (0 : Int32)), .val (.ref o0)] [(.ref o0)])) (fun _ kk => XS.aload X108.here hx rfl (hb hby dof_31) rfl rfl kk) ?_
    exact own_retA X108 hx hlk (t := (.object "com/example/lakeledger/lakeledger/Filter$Operator")) hret rfl rfl rfl (hb hby dof_33) F110 ⟨by simp only [own_of, if_pos q0], F109, F106⟩ (by decide) (by decide)
  · refine own_step (T' := T108) (g' := (mkF m 28 #[.val (.ref a1), .val (.ref bb), .val (.int (6 : Int32)), .val (.int (0 : Int32)), .val (.ref o0)] [(.int (0 : Int32))])) (fun _ kk => st108 _ kk) ?_
    refine own_step (T' := T108) (g' := (mkF m 34 #[.val (.ref a1), .val (.ref bb), .val (.int (6 : Int32)), .val (.int (0 : Int32)), .val (.ref o0)] [])) (fun _ kk => XS.ifYes X108.here hx rfl (pc0 := 28) (pc' := 34) rfl (hb hby dof_28) rfl ((if0 _ _).trans (teq rfl).1) (by decide) (by decide) kk) ?_
    refine own_step (T' := T108) (g' := (mkF m 37 #[.val (.ref a1), .val (.ref bb), .val (.int (6 : Int32)), .val (.int (1 : Int32)), .val (.ref o0)] [])) (fun _ kk => XS.iinc X108.here hx rfl (hb hby dof_34) rfl (l' := #[.val (.ref a1), .val (.ref bb), .val (.int (6 : Int32)), .val (.int (1 : Int32)), .val (.ref o0)]) rfl kk) ?_
    refine own_step (T' := T108) (g' := (mkF m 9 #[.val (.ref a1), .val (.ref bb), .val (.int (6 : Int32)), .val (.int (1 : Int32)), .val (.ref o0)] [])) (fun _ kk => XS.goto X108.here hx rfl (pc0 := 37) (pc' := 9) rfl (hb hby dof_37) (by decide) (by decide) kk) ?_
    refine own_step (T' := T108) (g' := (mkF m 10 #[.val (.ref a1), .val (.ref bb), .val (.int (6 : Int32)), .val (.int (1 : Int32)), .val (.ref o0)] [(.int (1 : Int32))])) (fun _ kk => XS.iloadN X108.here hx rfl (hb hby dof_9) rfl kk) ?_
    refine own_step (T' := T108) (g' := (mkF m 11 #[.val (.ref a1), .val (.ref bb), .val (.int (6 : Int32)), .val (.int (1 : Int32)), .val (.ref o0)] [(.int (6 : Int32)), (.int (1 : Int32))])) (fun _ kk => XS.iloadN X108.here hx rfl (hb hby dof_10) rfl kk) ?_
    refine own_step (T' := T108) (g' := (mkF m 14 #[.val (.ref a1), .val (.ref bb), .val (.int (6 : Int32)), .val (.int (1 : Int32)), .val (.ref o0)] [])) (fun _ kk => XS.icmpNo X108.here hx rfl (hb hby dof_11) rfl (tlt (by decide)).2.1 kk) ?_
    refine own_step (T' := T108) (g' := (mkF m 15 #[.val (.ref a1), .val (.ref bb), .val (.int (6 : Int32)), .val (.int (1 : Int32)), .val (.ref o0)] [(.ref bb)])) (fun _ kk => XS.aloadN X108.here hx rfl (hb hby dof_14) rfl rfl kk) ?_
    refine own_step (T' := T108) (g' := (mkF m 16 #[.val (.ref a1), .val (.ref bb), .val (.int (6 : Int32)), .val (.int (1 : Int32)), .val (.ref o0)] [(.int (1 : Int32)), (.ref bb)])) (fun _ kk => XS.iloadN X108.here hx rfl (hb hby dof_15) rfl kk) ?_
    refine own_step (T' := T108) (g' := (mkF m 17 #[.val (.ref a1), .val (.ref bb), .val (.int (6 : Int32)), .val (.int (1 : Int32)), .val (.ref o0)] [(.ref o1)])) (fun _ kk => own_aaload X108 hx hZ F110 Aq rfl ⟨by decide, by decide⟩ rfl (g := (mkF m 16 #[.val (.ref a1), .val (.ref bb), .val (.int (6 : Int32)), .val (.int (1 : Int32)), .val (.ref o0)] [(.int (1 : Int32)), (.ref bb)])) rfl rfl (hb hby dof_16) _ kk) ?_
    refine own_step (T' := T108) (g' := (mkF m 19 #[.val (.ref a1), .val (.ref bb), .val (.int (6 : Int32)), .val (.int (1 : Int32)), .val (.ref o1)] [])) (fun _ kk => XS.astore X108.here hx rfl (hb hby dof_17) rfl rfl (l' := #[.val (.ref a1), .val (.ref bb), .val (.int (6 : Int32)), .val (.int (1 : Int32)), .val (.ref o1)]) rfl kk) ?_
    refine own_step (T' := T108) (g' := (mkF m 21 #[.val (.ref a1), .val (.ref bb), .val (.int (6 : Int32)), .val (.int (1 : Int32)), .val (.ref o1)] [(.ref o1)])) (fun _ kk => XS.aload X108.here hx rfl (hb hby dof_19) rfl rfl kk) ?_
    obtain ⟨T111, X111, e111, st111⟩ := getF X108 hx hZ hown (host := "") (Or.inl (w51 hw)) Via.refl F110 (G1.ext F105.2) (g := (mkF m 21 #[.val (.ref a1), .val (.ref bb), .val (.int (6 : Int32)), .val (.int (1 : Int32)), .val (.ref o1)] [(.ref o1)])) rfl rfl (hb hby dof_21)
    refine own_step (T' := T111) (g' := (mkF m 24 #[.val (.ref a1), .val (.ref bb), .val (.int (6 : Int32)), .val (.int (1 : Int32)), .val (.ref o1)] [(.ref y1)])) (fun _ kk => st111 _ kk) ?_
    refine own_step (T' := T111) (g' := (mkF m 25 #[.val (.ref a1), .val (.ref bb), .val (.int (6 : Int32)), .val (.int (1 : Int32)), .val (.ref o1)] [(.ref a1), (.ref y1)])) (fun _ kk => XS.aloadN X111.here hx rfl (hb hby dof_24) rfl rfl kk) ?_
    obtain ⟨T112, L112, vv112, h112, X112, e112, ⟨hv112, el112, eh112⟩, st112⟩ := own_bcallV (nc := 0) (ns := 0) (Q := fun v h' L => ((v = some (.int 1) ∧ [(33 : Int32), (61 : Int32)] = cs) ∨ (v = some (.int 0) ∧ ¬ [(33 : Int32), (61 : Int32)] = cs)) ∧ L = [] ∧ h' = h103) X111 hx hZ hown (w53 hw) (w54 hw) (w56 hw) (w55 hw) (by decide) Ey1 (g := (mkF m 25 #[.val (.ref a1), .val (.ref bb), .val (.int (6 : Int32)), .val (.int (1 : Int32)), .val (.ref o1)] [(.ref a1), (.ref y1)])) rfl (by rw [hml]; rfl) (argsL := [(.ref a1)]) (rest := []) (StrChars.Road.eqW (W := 0) hZ (own_hwsE hw) (kI := 4) (w6 hw) Ey1 Vy1 Cy1 Ay1 hy1 bz1 (by decide) Es Vs Cs As hcod hb2 hl (SC.ext F105.2) hzc (by decide) (by decide)) e111 pd__Ljava_lang_Object__Z rfl rfl (by show 2 * 0 + _ ≤ _; exact Nat.le_of_eq rfl) (hb hby dof_25) (by decide) (by decide)
    have F113 := own_frnil F109 el112
    have F114 := e112.trans eh112
    rcases hv112 with ⟨rfl, q1⟩ | ⟨rfl, q1⟩
    · refine own_step (T' := T112) (g' := (mkF m 28 #[.val (.ref a1), .val (.ref bb), .val (.int (6 : Int32)), .val (.int (1 : Int32)), .val (.ref o1)] [(.int (1 : Int32))])) (fun _ kk => st112 _ kk) ?_
      refine own_step (T' := T112) (g' := (mkF m 31 #[.val (.ref a1), .val (.ref bb), .val (.int (6 : Int32)), .val (.int (1 : Int32)), .val (.ref o1)] [])) (fun _ kk => XS.ifNo X112.here hx rfl (hb hby dof_28) rfl ((if0 _ _).trans (feq (by decide)).1) kk) ?_
      refine own_step (T' := T112) (g' := (mkF m 33 #[.val (.ref a1), .val (.ref bb), .val (.int (6 : Int32)), .val (.int (1 : Int32)), .val (.ref o1)] [(.ref o1)])) (fun _ kk => XS.aload X112.here hx rfl (hb hby dof_31) rfl rfl kk) ?_
      exact own_retA X112 hx hlk (t := (.object "com/example/lakeledger/lakeledger/Filter$Operator")) hret rfl rfl rfl (hb hby dof_33) F114 ⟨by simp only [own_of, if_neg q0, if_pos q1], F113, F106⟩ (by decide) (by decide)
    · refine own_step (T' := T112) (g' := (mkF m 28 #[.val (.ref a1), .val (.ref bb), .val (.int (6 : Int32)), .val (.int (1 : Int32)), .val (.ref o1)] [(.int (0 : Int32))])) (fun _ kk => st112 _ kk) ?_
      refine own_step (T' := T112) (g' := (mkF m 34 #[.val (.ref a1), .val (.ref bb), .val (.int (6 : Int32)), .val (.int (1 : Int32)), .val (.ref o1)] [])) (fun _ kk => XS.ifYes X112.here hx rfl (pc0 := 28) (pc' := 34) rfl (hb hby dof_28) rfl ((if0 _ _).trans (teq rfl).1) (by decide) (by decide) kk) ?_
      refine own_step (T' := T112) (g' := (mkF m 37 #[.val (.ref a1), .val (.ref bb), .val (.int (6 : Int32)), .val (.int (2 : Int32)), .val (.ref o1)] [])) (fun _ kk => XS.iinc X112.here hx rfl (hb hby dof_34) rfl (l' := #[.val (.ref a1), .val (.ref bb), .val (.int (6 : Int32)), .val (.int (2 : Int32)), .val (.ref o1)]) rfl kk) ?_
      refine own_step (T' := T112) (g' := (mkF m 9 #[.val (.ref a1), .val (.ref bb), .val (.int (6 : Int32)), .val (.int (2 : Int32)), .val (.ref o1)] [])) (fun _ kk => XS.goto X112.here hx rfl (pc0 := 37) (pc' := 9) rfl (hb hby dof_37) (by decide) (by decide) kk) ?_
      refine own_step (T' := T112) (g' := (mkF m 10 #[.val (.ref a1), .val (.ref bb), .val (.int (6 : Int32)), .val (.int (2 : Int32)), .val (.ref o1)] [(.int (2 : Int32))])) (fun _ kk => XS.iloadN X112.here hx rfl (hb hby dof_9) rfl kk) ?_
      refine own_step (T' := T112) (g' := (mkF m 11 #[.val (.ref a1), .val (.ref bb), .val (.int (6 : Int32)), .val (.int (2 : Int32)), .val (.ref o1)] [(.int (6 : Int32)), (.int (2 : Int32))])) (fun _ kk => XS.iloadN X112.here hx rfl (hb hby dof_10) rfl kk) ?_
      refine own_step (T' := T112) (g' := (mkF m 14 #[.val (.ref a1), .val (.ref bb), .val (.int (6 : Int32)), .val (.int (2 : Int32)), .val (.ref o1)] [])) (fun _ kk => XS.icmpNo X112.here hx rfl (hb hby dof_11) rfl (tlt (by decide)).2.1 kk) ?_
      refine own_step (T' := T112) (g' := (mkF m 15 #[.val (.ref a1), .val (.ref bb), .val (.int (6 : Int32)), .val (.int (2 : Int32)), .val (.ref o1)] [(.ref bb)])) (fun _ kk => XS.aloadN X112.here hx rfl (hb hby dof_14) rfl rfl kk) ?_
      refine own_step (T' := T112) (g' := (mkF m 16 #[.val (.ref a1), .val (.ref bb), .val (.int (6 : Int32)), .val (.int (2 : Int32)), .val (.ref o1)] [(.int (2 : Int32)), (.ref bb)])) (fun _ kk => XS.iloadN X112.here hx rfl (hb hby dof_15) rfl kk) ?_
      refine own_step (T' := T112) (g' := (mkF m 17 #[.val (.ref a1), .val (.ref bb), .val (.int (6 : Int32)), .val (.int (2 : Int32)), .val (.ref o1)] [(.ref o2)])) (fun _ kk => own_aaload X112 hx hZ F114 Aq rfl ⟨by decide, by decide⟩ rfl (g := (mkF m 16 #[.val (.ref a1), .val (.ref bb), .val (.int (6 : Int32)), .val (.int (2 : Int32)), .val (.ref o1)] [(.int (2 : Int32)), (.ref bb)])) rfl rfl (hb hby dof_16) _ kk) ?_
      refine own_step (T' := T112) (g' := (mkF m 19 #[.val (.ref a1), .val (.ref bb), .val (.int (6 : Int32)), .val (.int (2 : Int32)), .val (.ref o2)] [])) (fun _ kk => XS.astore X112.here hx rfl (hb hby dof_17) rfl rfl (l' := #[.val (.ref a1), .val (.ref bb), .val (.int (6 : Int32)), .val (.int (2 : Int32)), .val (.ref o2)]) rfl kk) ?_
      refine own_step (T' := T112) (g' := (mkF m 21 #[.val (.ref a1), .val (.ref bb), .val (.int (6 : Int32)), .val (.int (2 : Int32)), .val (.ref o2)] [(.ref o2)])) (fun _ kk => XS.aload X112.here hx rfl (hb hby dof_19) rfl rfl kk) ?_
      obtain ⟨T115, X115, e115, st115⟩ := getF X112 hx hZ hown (host := "") (Or.inl (w51 hw)) Via.refl F114 (G2.ext F105.2) (g := (mkF m 21 #[.val (.ref a1), .val (.ref bb), .val (.int (6 : Int32)), .val (.int (2 : Int32)), .val (.ref o2)] [(.ref o2)])) rfl rfl (hb hby dof_21)
      refine own_step (T' := T115) (g' := (mkF m 24 #[.val (.ref a1), .val (.ref bb), .val (.int (6 : Int32)), .val (.int (2 : Int32)), .val (.ref o2)] [(.ref y2)])) (fun _ kk => st115 _ kk) ?_
      refine own_step (T' := T115) (g' := (mkF m 25 #[.val (.ref a1), .val (.ref bb), .val (.int (6 : Int32)), .val (.int (2 : Int32)), .val (.ref o2)] [(.ref a1), (.ref y2)])) (fun _ kk => XS.aloadN X115.here hx rfl (hb hby dof_24) rfl rfl kk) ?_
      obtain ⟨T116, L116, vv116, h116, X116, e116, ⟨hv116, el116, eh116⟩, st116⟩ := own_bcallV (nc := 0) (ns := 0) (Q := fun v h' L => ((v = some (.int 1) ∧ [(60 : Int32)] = cs) ∨ (v = some (.int 0) ∧ ¬ [(60 : Int32)] = cs)) ∧ L = [] ∧ h' = h103) X115 hx hZ hown (w53 hw) (w54 hw) (w56 hw) (w55 hw) (by decide) Ey2 (g := (mkF m 25 #[.val (.ref a1), .val (.ref bb), .val (.int (6 : Int32)), .val (.int (2 : Int32)), .val (.ref o2)] [(.ref a1), (.ref y2)])) rfl (by rw [hml]; rfl) (argsL := [(.ref a1)]) (rest := []) (StrChars.Road.eqW (W := 0) hZ (own_hwsE hw) (kI := 4) (w6 hw) Ey2 Vy2 Cy2 Ay2 hy2 bz2 (by decide) Es Vs Cs As hcod hb2 hl (SC.ext F105.2) hzc (by decide) (by decide)) e115 pd__Ljava_lang_Object__Z rfl rfl (by show 2 * 0 + _ ≤ _; exact Nat.le_of_eq rfl) (hb hby dof_25) (by decide) (by decide)
      have F117 := own_frnil F113 el116
      have F118 := e116.trans eh116
      rcases hv116 with ⟨rfl, q2⟩ | ⟨rfl, q2⟩
      · refine own_step (T' := T116) (g' := (mkF m 28 #[.val (.ref a1), .val (.ref bb), .val (.int (6 : Int32)), .val (.int (2 : Int32)), .val (.ref o2)] [(.int (1 : Int32))])) (fun _ kk => st116 _ kk) ?_
        refine own_step (T' := T116) (g' := (mkF m 31 #[.val (.ref a1), .val (.ref bb), .val (.int (6 : Int32)), .val (.int (2 : Int32)), .val (.ref o2)] [])) (fun _ kk => XS.ifNo X116.here hx rfl (hb hby dof_28) rfl ((if0 _ _).trans (feq (by decide)).1) kk) ?_
        refine own_step (T' := T116) (g' := (mkF m 33 #[.val (.ref a1), .val (.ref bb), .val (.int (6 : Int32)), .val (.int (2 : Int32)), .val (.ref o2)] [(.ref o2)])) (fun _ kk => XS.aload X116.here hx rfl (hb hby dof_31) rfl rfl kk) ?_
        exact own_retA X116 hx hlk (t := (.object "com/example/lakeledger/lakeledger/Filter$Operator")) hret rfl rfl rfl (hb hby dof_33) F118 ⟨by simp only [own_of, if_neg q0, if_neg q1, if_pos q2], F117, F106⟩ (by decide) (by decide)
      · refine own_step (T' := T116) (g' := (mkF m 28 #[.val (.ref a1), .val (.ref bb), .val (.int (6 : Int32)), .val (.int (2 : Int32)), .val (.ref o2)] [(.int (0 : Int32))])) (fun _ kk => st116 _ kk) ?_
        refine own_step (T' := T116) (g' := (mkF m 34 #[.val (.ref a1), .val (.ref bb), .val (.int (6 : Int32)), .val (.int (2 : Int32)), .val (.ref o2)] [])) (fun _ kk => XS.ifYes X116.here hx rfl (pc0 := 28) (pc' := 34) rfl (hb hby dof_28) rfl ((if0 _ _).trans (teq rfl).1) (by decide) (by decide) kk) ?_
        refine own_step (T' := T116) (g' := (mkF m 37 #[.val (.ref a1), .val (.ref bb), .val (.int (6 : Int32)), .val (.int (3 : Int32)), .val (.ref o2)] [])) (fun _ kk => XS.iinc X116.here hx rfl (hb hby dof_34) rfl (l' := #[.val (.ref a1), .val (.ref bb), .val (.int (6 : Int32)), .val (.int (3 : Int32)), .val (.ref o2)]) rfl kk) ?_
        refine own_step (T' := T116) (g' := (mkF m 9 #[.val (.ref a1), .val (.ref bb), .val (.int (6 : Int32)), .val (.int (3 : Int32)), .val (.ref o2)] [])) (fun _ kk => XS.goto X116.here hx rfl (pc0 := 37) (pc' := 9) rfl (hb hby dof_37) (by decide) (by decide) kk) ?_
        refine own_step (T' := T116) (g' := (mkF m 10 #[.val (.ref a1), .val (.ref bb), .val (.int (6 : Int32)), .val (.int (3 : Int32)), .val (.ref o2)] [(.int (3 : Int32))])) (fun _ kk => XS.iloadN X116.here hx rfl (hb hby dof_9) rfl kk) ?_
        refine own_step (T' := T116) (g' := (mkF m 11 #[.val (.ref a1), .val (.ref bb), .val (.int (6 : Int32)), .val (.int (3 : Int32)), .val (.ref o2)] [(.int (6 : Int32)), (.int (3 : Int32))])) (fun _ kk => XS.iloadN X116.here hx rfl (hb hby dof_10) rfl kk) ?_
        refine own_step (T' := T116) (g' := (mkF m 14 #[.val (.ref a1), .val (.ref bb), .val (.int (6 : Int32)), .val (.int (3 : Int32)), .val (.ref o2)] [])) (fun _ kk => XS.icmpNo X116.here hx rfl (hb hby dof_11) rfl (tlt (by decide)).2.1 kk) ?_
        refine own_step (T' := T116) (g' := (mkF m 15 #[.val (.ref a1), .val (.ref bb), .val (.int (6 : Int32)), .val (.int (3 : Int32)), .val (.ref o2)] [(.ref bb)])) (fun _ kk => XS.aloadN X116.here hx rfl (hb hby dof_14) rfl rfl kk) ?_
        refine own_step (T' := T116) (g' := (mkF m 16 #[.val (.ref a1), .val (.ref bb), .val (.int (6 : Int32)), .val (.int (3 : Int32)), .val (.ref o2)] [(.int (3 : Int32)), (.ref bb)])) (fun _ kk => XS.iloadN X116.here hx rfl (hb hby dof_15) rfl kk) ?_
        refine own_step (T' := T116) (g' := (mkF m 17 #[.val (.ref a1), .val (.ref bb), .val (.int (6 : Int32)), .val (.int (3 : Int32)), .val (.ref o2)] [(.ref o3)])) (fun _ kk => own_aaload X116 hx hZ F118 Aq rfl ⟨by decide, by decide⟩ rfl (g := (mkF m 16 #[.val (.ref a1), .val (.ref bb), .val (.int (6 : Int32)), .val (.int (3 : Int32)), .val (.ref o2)] [(.int (3 : Int32)), (.ref bb)])) rfl rfl (hb hby dof_16) _ kk) ?_
        refine own_step (T' := T116) (g' := (mkF m 19 #[.val (.ref a1), .val (.ref bb), .val (.int (6 : Int32)), .val (.int (3 : Int32)), .val (.ref o3)] [])) (fun _ kk => XS.astore X116.here hx rfl (hb hby dof_17) rfl rfl (l' := #[.val (.ref a1), .val (.ref bb), .val (.int (6 : Int32)), .val (.int (3 : Int32)), .val (.ref o3)]) rfl kk) ?_
        refine own_step (T' := T116) (g' := (mkF m 21 #[.val (.ref a1), .val (.ref bb), .val (.int (6 : Int32)), .val (.int (3 : Int32)), .val (.ref o3)] [(.ref o3)])) (fun _ kk => XS.aload X116.here hx rfl (hb hby dof_19) rfl rfl kk) ?_
        obtain ⟨T119, X119, e119, st119⟩ := getF X116 hx hZ hown (host := "") (Or.inl (w51 hw)) Via.refl F118 (G3.ext F105.2) (g := (mkF m 21 #[.val (.ref a1), .val (.ref bb), .val (.int (6 : Int32)), .val (.int (3 : Int32)), .val (.ref o3)] [(.ref o3)])) rfl rfl (hb hby dof_21)
        refine own_step (T' := T119) (g' := (mkF m 24 #[.val (.ref a1), .val (.ref bb), .val (.int (6 : Int32)), .val (.int (3 : Int32)), .val (.ref o3)] [(.ref y3)])) (fun _ kk => st119 _ kk) ?_
        refine own_step (T' := T119) (g' := (mkF m 25 #[.val (.ref a1), .val (.ref bb), .val (.int (6 : Int32)), .val (.int (3 : Int32)), .val (.ref o3)] [(.ref a1), (.ref y3)])) (fun _ kk => XS.aloadN X119.here hx rfl (hb hby dof_24) rfl rfl kk) ?_
        obtain ⟨T120, L120, vv120, h120, X120, e120, ⟨hv120, el120, eh120⟩, st120⟩ := own_bcallV (nc := 0) (ns := 0) (Q := fun v h' L => ((v = some (.int 1) ∧ [(60 : Int32), (61 : Int32)] = cs) ∨ (v = some (.int 0) ∧ ¬ [(60 : Int32), (61 : Int32)] = cs)) ∧ L = [] ∧ h' = h103) X119 hx hZ hown (w53 hw) (w54 hw) (w56 hw) (w55 hw) (by decide) Ey3 (g := (mkF m 25 #[.val (.ref a1), .val (.ref bb), .val (.int (6 : Int32)), .val (.int (3 : Int32)), .val (.ref o3)] [(.ref a1), (.ref y3)])) rfl (by rw [hml]; rfl) (argsL := [(.ref a1)]) (rest := []) (StrChars.Road.eqW (W := 0) hZ (own_hwsE hw) (kI := 4) (w6 hw) Ey3 Vy3 Cy3 Ay3 hy3 bz3 (by decide) Es Vs Cs As hcod hb2 hl (SC.ext F105.2) hzc (by decide) (by decide)) e119 pd__Ljava_lang_Object__Z rfl rfl (by show 2 * 0 + _ ≤ _; exact Nat.le_of_eq rfl) (hb hby dof_25) (by decide) (by decide)
        have F121 := own_frnil F117 el120
        have F122 := e120.trans eh120
        rcases hv120 with ⟨rfl, q3⟩ | ⟨rfl, q3⟩
        · refine own_step (T' := T120) (g' := (mkF m 28 #[.val (.ref a1), .val (.ref bb), .val (.int (6 : Int32)), .val (.int (3 : Int32)), .val (.ref o3)] [(.int (1 : Int32))])) (fun _ kk => st120 _ kk) ?_
          refine own_step (T' := T120) (g' := (mkF m 31 #[.val (.ref a1), .val (.ref bb), .val (.int (6 : Int32)), .val (.int (3 : Int32)), .val (.ref o3)] [])) (fun _ kk => XS.ifNo X120.here hx rfl (hb hby dof_28) rfl ((if0 _ _).trans (feq (by decide)).1) kk) ?_
          refine own_step (T' := T120) (g' := (mkF m 33 #[.val (.ref a1), .val (.ref bb), .val (.int (6 : Int32)), .val (.int (3 : Int32)), .val (.ref o3)] [(.ref o3)])) (fun _ kk => XS.aload X120.here hx rfl (hb hby dof_31) rfl rfl kk) ?_
          exact own_retA X120 hx hlk (t := (.object "com/example/lakeledger/lakeledger/Filter$Operator")) hret rfl rfl rfl (hb hby dof_33) F122 ⟨by simp only [own_of, if_neg q0, if_neg q1, if_neg q2, if_pos q3], F121, F106⟩ (by decide) (by decide)
        · refine own_step (T' := T120) (g' := (mkF m 28 #[.val (.ref a1), .val (.ref bb), .val (.int (6 : Int32)), .val (.int (3 : Int32)), .val (.ref o3)] [(.int (0 : Int32))])) (fun _ kk => st120 _ kk) ?_
          refine own_step (T' := T120) (g' := (mkF m 34 #[.val (.ref a1), .val (.ref bb), .val (.int (6 : Int32)), .val (.int (3 : Int32)), .val (.ref o3)] [])) (fun _ kk => XS.ifYes X120.here hx rfl (pc0 := 28) (pc' := 34) rfl (hb hby dof_28) rfl ((if0 _ _).trans (teq rfl).1) (by decide) (by decide) kk) ?_
          refine own_step (T' := T120) (g' := (mkF m 37 #[.val (.ref a1), .val (.ref bb), .val (.int (6 : Int32)), .val (.int (4 : Int32)), .val (.ref o3)] [])) (fun _ kk => XS.iinc X120.here hx rfl (hb hby dof_34) rfl (l' := #[.val (.ref a1), .val (.ref bb), .val (.int (6 : Int32)), .val (.int (4 : Int32)), .val (.ref o3)]) rfl kk) ?_
          refine own_step (T' := T120) (g' := (mkF m 9 #[.val (.ref a1), .val (.ref bb), .val (.int (6 : Int32)), .val (.int (4 : Int32)), .val (.ref o3)] [])) (fun _ kk => XS.goto X120.here hx rfl (pc0 := 37) (pc' := 9) rfl (hb hby dof_37) (by decide) (by decide) kk) ?_
          refine own_step (T' := T120) (g' := (mkF m 10 #[.val (.ref a1), .val (.ref bb), .val (.int (6 : Int32)), .val (.int (4 : Int32)), .val (.ref o3)] [(.int (4 : Int32))])) (fun _ kk => XS.iloadN X120.here hx rfl (hb hby dof_9) rfl kk) ?_
          refine own_step (T' := T120) (g' := (mkF m 11 #[.val (.ref a1), .val (.ref bb), .val (.int (6 : Int32)), .val (.int (4 : Int32)), .val (.ref o3)] [(.int (6 : Int32)), (.int (4 : Int32))])) (fun _ kk => XS.iloadN X120.here hx rfl (hb hby dof_10) rfl kk) ?_
          refine own_step (T' := T120) (g' := (mkF m 14 #[.val (.ref a1), .val (.ref bb), .val (.int (6 : Int32)), .val (.int (4 : Int32)), .val (.ref o3)] [])) (fun _ kk => XS.icmpNo X120.here hx rfl (hb hby dof_11) rfl (tlt (by decide)).2.1 kk) ?_
          refine own_step (T' := T120) (g' := (mkF m 15 #[.val (.ref a1), .val (.ref bb), .val (.int (6 : Int32)), .val (.int (4 : Int32)), .val (.ref o3)] [(.ref bb)])) (fun _ kk => XS.aloadN X120.here hx rfl (hb hby dof_14) rfl rfl kk) ?_
          refine own_step (T' := T120) (g' := (mkF m 16 #[.val (.ref a1), .val (.ref bb), .val (.int (6 : Int32)), .val (.int (4 : Int32)), .val (.ref o3)] [(.int (4 : Int32)), (.ref bb)])) (fun _ kk => XS.iloadN X120.here hx rfl (hb hby dof_15) rfl kk) ?_
          refine own_step (T' := T120) (g' := (mkF m 17 #[.val (.ref a1), .val (.ref bb), .val (.int (6 : Int32)), .val (.int (4 : Int32)), .val (.ref o3)] [(.ref o4)])) (fun _ kk => own_aaload X120 hx hZ F122 Aq rfl ⟨by decide, by decide⟩ rfl (g := (mkF m 16 #[.val (.ref a1), .val (.ref bb), .val (.int (6 : Int32)), .val (.int (4 : Int32)), .val (.ref o3)] [(.int (4 : Int32)), (.ref bb)])) rfl rfl (hb hby dof_16) _ kk) ?_
          refine own_step (T' := T120) (g' := (mkF m 19 #[.val (.ref a1), .val (.ref bb), .val (.int (6 : Int32)), .val (.int (4 : Int32)), .val (.ref o4)] [])) (fun _ kk => XS.astore X120.here hx rfl (hb hby dof_17) rfl rfl (l' := #[.val (.ref a1), .val (.ref bb), .val (.int (6 : Int32)), .val (.int (4 : Int32)), .val (.ref o4)]) rfl kk) ?_
          refine own_step (T' := T120) (g' := (mkF m 21 #[.val (.ref a1), .val (.ref bb), .val (.int (6 : Int32)), .val (.int (4 : Int32)), .val (.ref o4)] [(.ref o4)])) (fun _ kk => XS.aload X120.here hx rfl (hb hby dof_19) rfl rfl kk) ?_
          obtain ⟨T123, X123, e123, st123⟩ := getF X120 hx hZ hown (host := "") (Or.inl (w51 hw)) Via.refl F122 (G4.ext F105.2) (g := (mkF m 21 #[.val (.ref a1), .val (.ref bb), .val (.int (6 : Int32)), .val (.int (4 : Int32)), .val (.ref o4)] [(.ref o4)])) rfl rfl (hb hby dof_21)
          refine own_step (T' := T123) (g' := (mkF m 24 #[.val (.ref a1), .val (.ref bb), .val (.int (6 : Int32)), .val (.int (4 : Int32)), .val (.ref o4)] [(.ref y4)])) (fun _ kk => st123 _ kk) ?_
          refine own_step (T' := T123) (g' := (mkF m 25 #[.val (.ref a1), .val (.ref bb), .val (.int (6 : Int32)), .val (.int (4 : Int32)), .val (.ref o4)] [(.ref a1), (.ref y4)])) (fun _ kk => XS.aloadN X123.here hx rfl (hb hby dof_24) rfl rfl kk) ?_
          obtain ⟨T124, L124, vv124, h124, X124, e124, ⟨hv124, el124, eh124⟩, st124⟩ := own_bcallV (nc := 0) (ns := 0) (Q := fun v h' L => ((v = some (.int 1) ∧ [(62 : Int32)] = cs) ∨ (v = some (.int 0) ∧ ¬ [(62 : Int32)] = cs)) ∧ L = [] ∧ h' = h103) X123 hx hZ hown (w53 hw) (w54 hw) (w56 hw) (w55 hw) (by decide) Ey4 (g := (mkF m 25 #[.val (.ref a1), .val (.ref bb), .val (.int (6 : Int32)), .val (.int (4 : Int32)), .val (.ref o4)] [(.ref a1), (.ref y4)])) rfl (by rw [hml]; rfl) (argsL := [(.ref a1)]) (rest := []) (StrChars.Road.eqW (W := 0) hZ (own_hwsE hw) (kI := 4) (w6 hw) Ey4 Vy4 Cy4 Ay4 hy4 bz4 (by decide) Es Vs Cs As hcod hb2 hl (SC.ext F105.2) hzc (by decide) (by decide)) e123 pd__Ljava_lang_Object__Z rfl rfl (by show 2 * 0 + _ ≤ _; exact Nat.le_of_eq rfl) (hb hby dof_25) (by decide) (by decide)
          have F125 := own_frnil F121 el124
          have F126 := e124.trans eh124
          rcases hv124 with ⟨rfl, q4⟩ | ⟨rfl, q4⟩
          · refine own_step (T' := T124) (g' := (mkF m 28 #[.val (.ref a1), .val (.ref bb), .val (.int (6 : Int32)), .val (.int (4 : Int32)), .val (.ref o4)] [(.int (1 : Int32))])) (fun _ kk => st124 _ kk) ?_
            refine own_step (T' := T124) (g' := (mkF m 31 #[.val (.ref a1), .val (.ref bb), .val (.int (6 : Int32)), .val (.int (4 : Int32)), .val (.ref o4)] [])) (fun _ kk => XS.ifNo X124.here hx rfl (hb hby dof_28) rfl ((if0 _ _).trans (feq (by decide)).1) kk) ?_
            refine own_step (T' := T124) (g' := (mkF m 33 #[.val (.ref a1), .val (.ref bb), .val (.int (6 : Int32)), .val (.int (4 : Int32)), .val (.ref o4)] [(.ref o4)])) (fun _ kk => XS.aload X124.here hx rfl (hb hby dof_31) rfl rfl kk) ?_
            exact own_retA X124 hx hlk (t := (.object "com/example/lakeledger/lakeledger/Filter$Operator")) hret rfl rfl rfl (hb hby dof_33) F126 ⟨by simp only [own_of, if_neg q0, if_neg q1, if_neg q2, if_neg q3, if_pos q4], F125, F106⟩ (by decide) (by decide)
          · refine own_step (T' := T124) (g' := (mkF m 28 #[.val (.ref a1), .val (.ref bb), .val (.int (6 : Int32)), .val (.int (4 : Int32)), .val (.ref o4)] [(.int (0 : Int32))])) (fun _ kk => st124 _ kk) ?_
            refine own_step (T' := T124) (g' := (mkF m 34 #[.val (.ref a1), .val (.ref bb), .val (.int (6 : Int32)), .val (.int (4 : Int32)), .val (.ref o4)] [])) (fun _ kk => XS.ifYes X124.here hx rfl (pc0 := 28) (pc' := 34) rfl (hb hby dof_28) rfl ((if0 _ _).trans (teq rfl).1) (by decide) (by decide) kk) ?_
            refine own_step (T' := T124) (g' := (mkF m 37 #[.val (.ref a1), .val (.ref bb), .val (.int (6 : Int32)), .val (.int (5 : Int32)), .val (.ref o4)] [])) (fun _ kk => XS.iinc X124.here hx rfl (hb hby dof_34) rfl (l' := #[.val (.ref a1), .val (.ref bb), .val (.int (6 : Int32)), .val (.int (5 : Int32)), .val (.ref o4)]) rfl kk) ?_
            refine own_step (T' := T124) (g' := (mkF m 9 #[.val (.ref a1), .val (.ref bb), .val (.int (6 : Int32)), .val (.int (5 : Int32)), .val (.ref o4)] [])) (fun _ kk => XS.goto X124.here hx rfl (pc0 := 37) (pc' := 9) rfl (hb hby dof_37) (by decide) (by decide) kk) ?_
            refine own_step (T' := T124) (g' := (mkF m 10 #[.val (.ref a1), .val (.ref bb), .val (.int (6 : Int32)), .val (.int (5 : Int32)), .val (.ref o4)] [(.int (5 : Int32))])) (fun _ kk => XS.iloadN X124.here hx rfl (hb hby dof_9) rfl kk) ?_
            refine own_step (T' := T124) (g' := (mkF m 11 #[.val (.ref a1), .val (.ref bb), .val (.int (6 : Int32)), .val (.int (5 : Int32)), .val (.ref o4)] [(.int (6 : Int32)), (.int (5 : Int32))])) (fun _ kk => XS.iloadN X124.here hx rfl (hb hby dof_10) rfl kk) ?_
            refine own_step (T' := T124) (g' := (mkF m 14 #[.val (.ref a1), .val (.ref bb), .val (.int (6 : Int32)), .val (.int (5 : Int32)), .val (.ref o4)] [])) (fun _ kk => XS.icmpNo X124.here hx rfl (hb hby dof_11) rfl (tlt (by decide)).2.1 kk) ?_
            refine own_step (T' := T124) (g' := (mkF m 15 #[.val (.ref a1), .val (.ref bb), .val (.int (6 : Int32)), .val (.int (5 : Int32)), .val (.ref o4)] [(.ref bb)])) (fun _ kk => XS.aloadN X124.here hx rfl (hb hby dof_14) rfl rfl kk) ?_
            refine own_step (T' := T124) (g' := (mkF m 16 #[.val (.ref a1), .val (.ref bb), .val (.int (6 : Int32)), .val (.int (5 : Int32)), .val (.ref o4)] [(.int (5 : Int32)), (.ref bb)])) (fun _ kk => XS.iloadN X124.here hx rfl (hb hby dof_15) rfl kk) ?_
            refine own_step (T' := T124) (g' := (mkF m 17 #[.val (.ref a1), .val (.ref bb), .val (.int (6 : Int32)), .val (.int (5 : Int32)), .val (.ref o4)] [(.ref o5)])) (fun _ kk => own_aaload X124 hx hZ F126 Aq rfl ⟨by decide, by decide⟩ rfl (g := (mkF m 16 #[.val (.ref a1), .val (.ref bb), .val (.int (6 : Int32)), .val (.int (5 : Int32)), .val (.ref o4)] [(.int (5 : Int32)), (.ref bb)])) rfl rfl (hb hby dof_16) _ kk) ?_
            refine own_step (T' := T124) (g' := (mkF m 19 #[.val (.ref a1), .val (.ref bb), .val (.int (6 : Int32)), .val (.int (5 : Int32)), .val (.ref o5)] [])) (fun _ kk => XS.astore X124.here hx rfl (hb hby dof_17) rfl rfl (l' := #[.val (.ref a1), .val (.ref bb), .val (.int (6 : Int32)), .val (.int (5 : Int32)), .val (.ref o5)]) rfl kk) ?_
            refine own_step (T' := T124) (g' := (mkF m 21 #[.val (.ref a1), .val (.ref bb), .val (.int (6 : Int32)), .val (.int (5 : Int32)), .val (.ref o5)] [(.ref o5)])) (fun _ kk => XS.aload X124.here hx rfl (hb hby dof_19) rfl rfl kk) ?_
            obtain ⟨T127, X127, e127, st127⟩ := getF X124 hx hZ hown (host := "") (Or.inl (w51 hw)) Via.refl F126 (G5.ext F105.2) (g := (mkF m 21 #[.val (.ref a1), .val (.ref bb), .val (.int (6 : Int32)), .val (.int (5 : Int32)), .val (.ref o5)] [(.ref o5)])) rfl rfl (hb hby dof_21)
            refine own_step (T' := T127) (g' := (mkF m 24 #[.val (.ref a1), .val (.ref bb), .val (.int (6 : Int32)), .val (.int (5 : Int32)), .val (.ref o5)] [(.ref y5)])) (fun _ kk => st127 _ kk) ?_
            refine own_step (T' := T127) (g' := (mkF m 25 #[.val (.ref a1), .val (.ref bb), .val (.int (6 : Int32)), .val (.int (5 : Int32)), .val (.ref o5)] [(.ref a1), (.ref y5)])) (fun _ kk => XS.aloadN X127.here hx rfl (hb hby dof_24) rfl rfl kk) ?_
            obtain ⟨T128, L128, vv128, h128, X128, e128, ⟨hv128, el128, eh128⟩, st128⟩ := own_bcallV (nc := 0) (ns := 0) (Q := fun v h' L => ((v = some (.int 1) ∧ [(62 : Int32), (61 : Int32)] = cs) ∨ (v = some (.int 0) ∧ ¬ [(62 : Int32), (61 : Int32)] = cs)) ∧ L = [] ∧ h' = h103) X127 hx hZ hown (w53 hw) (w54 hw) (w56 hw) (w55 hw) (by decide) Ey5 (g := (mkF m 25 #[.val (.ref a1), .val (.ref bb), .val (.int (6 : Int32)), .val (.int (5 : Int32)), .val (.ref o5)] [(.ref a1), (.ref y5)])) rfl (by rw [hml]; rfl) (argsL := [(.ref a1)]) (rest := []) (StrChars.Road.eqW (W := 0) hZ (own_hwsE hw) (kI := 4) (w6 hw) Ey5 Vy5 Cy5 Ay5 hy5 bz5 (by decide) Es Vs Cs As hcod hb2 hl (SC.ext F105.2) hzc (by decide) (by decide)) e127 pd__Ljava_lang_Object__Z rfl rfl (by show 2 * 0 + _ ≤ _; exact Nat.le_of_eq rfl) (hb hby dof_25) (by decide) (by decide)
            have F129 := own_frnil F125 el128
            have F130 := e128.trans eh128
            rcases hv128 with ⟨rfl, q5⟩ | ⟨rfl, q5⟩
            · refine own_step (T' := T128) (g' := (mkF m 28 #[.val (.ref a1), .val (.ref bb), .val (.int (6 : Int32)), .val (.int (5 : Int32)), .val (.ref o5)] [(.int (1 : Int32))])) (fun _ kk => st128 _ kk) ?_
              refine own_step (T' := T128) (g' := (mkF m 31 #[.val (.ref a1), .val (.ref bb), .val (.int (6 : Int32)), .val (.int (5 : Int32)), .val (.ref o5)] [])) (fun _ kk => XS.ifNo X128.here hx rfl (hb hby dof_28) rfl ((if0 _ _).trans (feq (by decide)).1) kk) ?_
              refine own_step (T' := T128) (g' := (mkF m 33 #[.val (.ref a1), .val (.ref bb), .val (.int (6 : Int32)), .val (.int (5 : Int32)), .val (.ref o5)] [(.ref o5)])) (fun _ kk => XS.aload X128.here hx rfl (hb hby dof_31) rfl rfl kk) ?_
              exact own_retA X128 hx hlk (t := (.object "com/example/lakeledger/lakeledger/Filter$Operator")) hret rfl rfl rfl (hb hby dof_33) F130 ⟨by simp only [own_of, if_neg q0, if_neg q1, if_neg q2, if_neg q3, if_neg q4, if_pos q5], F129, F106⟩ (by decide) (by decide)
            · refine own_step (T' := T128) (g' := (mkF m 28 #[.val (.ref a1), .val (.ref bb), .val (.int (6 : Int32)), .val (.int (5 : Int32)), .val (.ref o5)] [(.int (0 : Int32))])) (fun _ kk => st128 _ kk) ?_
              refine own_step (T' := T128) (g' := (mkF m 34 #[.val (.ref a1), .val (.ref bb), .val (.int (6 : Int32)), .val (.int (5 : Int32)), .val (.ref o5)] [])) (fun _ kk => XS.ifYes X128.here hx rfl (pc0 := 28) (pc' := 34) rfl (hb hby dof_28) rfl ((if0 _ _).trans (teq rfl).1) (by decide) (by decide) kk) ?_
              refine own_step (T' := T128) (g' := (mkF m 37 #[.val (.ref a1), .val (.ref bb), .val (.int (6 : Int32)), .val (.int (6 : Int32)), .val (.ref o5)] [])) (fun _ kk => XS.iinc X128.here hx rfl (hb hby dof_34) rfl (l' := #[.val (.ref a1), .val (.ref bb), .val (.int (6 : Int32)), .val (.int (6 : Int32)), .val (.ref o5)]) rfl kk) ?_
              refine own_step (T' := T128) (g' := (mkF m 9 #[.val (.ref a1), .val (.ref bb), .val (.int (6 : Int32)), .val (.int (6 : Int32)), .val (.ref o5)] [])) (fun _ kk => XS.goto X128.here hx rfl (pc0 := 37) (pc' := 9) rfl (hb hby dof_37) (by decide) (by decide) kk) ?_
              refine own_step (T' := T128) (g' := (mkF m 10 #[.val (.ref a1), .val (.ref bb), .val (.int (6 : Int32)), .val (.int (6 : Int32)), .val (.ref o5)] [(.int (6 : Int32))])) (fun _ kk => XS.iloadN X128.here hx rfl (hb hby dof_9) rfl kk) ?_
              refine own_step (T' := T128) (g' := (mkF m 11 #[.val (.ref a1), .val (.ref bb), .val (.int (6 : Int32)), .val (.int (6 : Int32)), .val (.ref o5)] [(.int (6 : Int32)), (.int (6 : Int32))])) (fun _ kk => XS.iloadN X128.here hx rfl (hb hby dof_10) rfl kk) ?_
              refine own_step (T' := T128) (g' := (mkF m 40 #[.val (.ref a1), .val (.ref bb), .val (.int (6 : Int32)), .val (.int (6 : Int32)), .val (.ref o5)] [])) (fun _ kk => XS.icmpYes X128.here hx rfl (pc0 := 11) (pc' := 40) rfl (hb hby dof_11) rfl (flt (by decide)).2.1 (by decide) (by decide) kk) ?_
              refine own_step (T' := T128) (g' := (mkF m 41 #[.val (.ref a1), .val (.ref bb), .val (.int (6 : Int32)), .val (.int (6 : Int32)), .val (.ref o5)] [.null])) (fun _ kk => XS.aconstNull X128.here hx rfl (hb hby dof_40) kk) ?_
              exact own_retA X128 hx hlk (t := (.object "com/example/lakeledger/lakeledger/Filter$Operator")) hret rfl rfl rfl (hb hby dof_41) F130 ⟨by simp only [own_of, if_neg q0, if_neg q1, if_neg q2, if_neg q3, if_neg q4, if_neg q5], F129, F106⟩ (by decide) (by decide)
theorem dex_0 : decode method_3_code 0 = .ok (.iload_n 0, 1) := by decide +kernel
theorem dex_1 : decode method_3_code 1 = .ok (.iconst 1, 1) := by decide +kernel
theorem dex_2 : decode method_3_code 2 = .ok (.if_icmp .ne 35, 3) := by decide +kernel
theorem dex_5 : decode method_3_code 5 = .ok (.iload_n 1, 1) := by decide +kernel
theorem dex_6 : decode method_3_code 6 = .ok (.bipush 61, 2) := by decide +kernel
theorem dex_8 : decode method_3_code 8 = .ok (.if_icmp .ne 7, 3) := by decide +kernel
theorem dex_11 : decode method_3_code 11 = .ok (.getstatic 7, 3) := by decide +kernel
theorem dex_14 : decode method_3_code 14 = .ok (.areturn, 1) := by decide +kernel
theorem dex_15 : decode method_3_code 15 = .ok (.iload_n 1, 1) := by decide +kernel
theorem dex_16 : decode method_3_code 16 = .ok (.bipush 60, 2) := by decide +kernel
theorem dex_18 : decode method_3_code 18 = .ok (.if_icmp .ne 7, 3) := by decide +kernel
theorem dex_21 : decode method_3_code 21 = .ok (.getstatic 13, 3) := by decide +kernel
theorem dex_24 : decode method_3_code 24 = .ok (.areturn, 1) := by decide +kernel
theorem dex_25 : decode method_3_code 25 = .ok (.iload_n 1, 1) := by decide +kernel
theorem dex_26 : decode method_3_code 26 = .ok (.bipush 62, 2) := by decide +kernel
theorem dex_28 : decode method_3_code 28 = .ok (.if_icmp .ne 7, 3) := by decide +kernel
theorem dex_31 : decode method_3_code 31 = .ok (.getstatic 16, 3) := by decide +kernel
theorem dex_34 : decode method_3_code 34 = .ok (.areturn, 1) := by decide +kernel
theorem dex_35 : decode method_3_code 35 = .ok (.aconst_null, 1) := by decide +kernel
theorem dex_36 : decode method_3_code 36 = .ok (.areturn, 1) := by decide +kernel
theorem dex_37 : decode method_3_code 37 = .ok (.iload_n 0, 1) := by decide +kernel
theorem dex_38 : decode method_3_code 38 = .ok (.iconst 2, 1) := by decide +kernel
theorem dex_39 : decode method_3_code 39 = .ok (.if_icmp .ne 39, 3) := by decide +kernel
theorem dex_42 : decode method_3_code 42 = .ok (.iload_n 2, 1) := by decide +kernel
theorem dex_43 : decode method_3_code 43 = .ok (.bipush 61, 2) := by decide +kernel
theorem dex_45 : decode method_3_code 45 = .ok (.if_icmp .ne 33, 3) := by decide +kernel
theorem dex_48 : decode method_3_code 48 = .ok (.iload_n 1, 1) := by decide +kernel
theorem dex_49 : decode method_3_code 49 = .ok (.bipush 33, 2) := by decide +kernel
theorem dex_51 : decode method_3_code 51 = .ok (.if_icmp .ne 7, 3) := by decide +kernel
theorem dex_54 : decode method_3_code 54 = .ok (.getstatic 19, 3) := by decide +kernel
theorem dex_57 : decode method_3_code 57 = .ok (.areturn, 1) := by decide +kernel
theorem dex_58 : decode method_3_code 58 = .ok (.iload_n 1, 1) := by decide +kernel
theorem dex_59 : decode method_3_code 59 = .ok (.bipush 60, 2) := by decide +kernel
theorem dex_61 : decode method_3_code 61 = .ok (.if_icmp .ne 7, 3) := by decide +kernel
theorem dex_64 : decode method_3_code 64 = .ok (.getstatic 22, 3) := by decide +kernel
theorem dex_67 : decode method_3_code 67 = .ok (.areturn, 1) := by decide +kernel
theorem dex_68 : decode method_3_code 68 = .ok (.iload_n 1, 1) := by decide +kernel
theorem dex_69 : decode method_3_code 69 = .ok (.bipush 62, 2) := by decide +kernel
theorem dex_71 : decode method_3_code 71 = .ok (.if_icmp .ne 7, 3) := by decide +kernel
theorem dex_74 : decode method_3_code 74 = .ok (.getstatic 25, 3) := by decide +kernel
theorem dex_77 : decode method_3_code 77 = .ok (.areturn, 1) := by decide +kernel
theorem dex_78 : decode method_3_code 78 = .ok (.aconst_null, 1) := by decide +kernel
theorem dex_79 : decode method_3_code 79 = .ok (.areturn, 1) := by decide +kernel
set_option maxRecDepth 65536 in
set_option maxHeartbeats 40000000 in
theorem rm_ex (l : Launch) (Z : State) (a0 : Array Value) (hw : ∀ d ∈ tables_1, d.before a0 Z = true) (p0 c0 c1 : Int32) (o0 o1 o2 o3 o4 o5 : Addr) (h0 : Heap) (O0 : Old Z Z.heap.size h0) (S0 : Sta Z Z.heap "com/example/lakeledger/lakeledger/Filter$Operator" "EQ" "Lcom/example/lakeledger/lakeledger/Filter$Operator;" (.ref o0)) (S1 : Sta Z Z.heap "com/example/lakeledger/lakeledger/Filter$Operator" "NE" "Lcom/example/lakeledger/lakeledger/Filter$Operator;" (.ref o1)) (S2 : Sta Z Z.heap "com/example/lakeledger/lakeledger/Filter$Operator" "LT" "Lcom/example/lakeledger/lakeledger/Filter$Operator;" (.ref o2)) (S3 : Sta Z Z.heap "com/example/lakeledger/lakeledger/Filter$Operator" "LE" "Lcom/example/lakeledger/lakeledger/Filter$Operator;" (.ref o3)) (S4 : Sta Z Z.heap "com/example/lakeledger/lakeledger/Filter$Operator" "GT" "Lcom/example/lakeledger/lakeledger/Filter$Operator;" (.ref o4)) (S5 : Sta Z Z.heap "com/example/lakeledger/lakeledger/Filter$Operator" "GE" "Lcom/example/lakeledger/lakeledger/Filter$Operator;" (.ref o5)) :
    own_Con l Z (⟨"com/example/lakeledger/lakeledger/OperatorOfPinLaw", "expected", "(ICC)Lcom/example/lakeledger/lakeledger/Filter$Operator;"⟩ : MethodName) method_3_code 3 (some (.object "com/example/lakeledger/lakeledger/Filter$Operator")) ({ frames := 0, cells := 0, slots := 0, locals := 0 } : Room) #[(.int p0), (.int c0), (.int c1)] h0 (fun v h L => v = some (own_ex p0 c0 c1 o0 o1 o2 o3 o4 o5) ∧ Fr Z.heap.size L ∧ h = h0) := by
  refine own_con (ls := #[.val (.int p0), .val (.int c0), .val (.int c1)]) (pn_com_example_lakeledger_lakeledger_OperatorOfPinLaw) (fun m => by first | (simp [entryFrame, mkF, argsToLocals, Value.category]; done) | rfl) ?_
  intro p e s m below meth c s₁ hx hby hml0 hown0 hnm0 hret0 hlk hZ X0 e0
  have hml : c.maxLocals = 3 := hml0
  have hown : s.vm.findClass "com/example/lakeledger/lakeledger/OperatorOfPinLaw" = some m.cls := hown0
  have hnm : meth.name = "expected" := hnm0
  have hret : meth.sig.returnType = (some (.object "com/example/lakeledger/lakeledger/Filter$Operator")) := hret0
  have F131 := Fr.nil Z.heap.size
  have F132 := Keep.refl h0 []
  refine own_step (T' := s₁) (g' := (mkF m 1 #[.val (.int p0), .val (.int c0), .val (.int c1)] [(.int p0)])) (fun _ kk => XS.iloadN X0.here hx rfl (hb hby dex_0) rfl kk) ?_
  refine own_step (T' := s₁) (g' := (mkF m 2 #[.val (.int p0), .val (.int c0), .val (.int c1)] [(.int (1 : Int32)), (.int p0)])) (fun _ kk => XS.iconst X0.here hx rfl (hb hby dex_1) kk) ?_
  by_cases c133 : p0 = (1 : Int32)
  · refine own_step (T' := s₁) (g' := (mkF m 5 #[.val (.int p0), .val (.int c0), .val (.int c1)] [])) (fun _ kk => XS.icmpNo X0.here hx rfl (hb hby dex_2) rfl (teq c133).2 kk) ?_
    refine own_step (T' := s₁) (g' := (mkF m 6 #[.val (.int p0), .val (.int c0), .val (.int c1)] [(.int c0)])) (fun _ kk => XS.iloadN X0.here hx rfl (hb hby dex_5) rfl kk) ?_
    refine own_step (T' := s₁) (g' := (mkF m 8 #[.val (.int p0), .val (.int c0), .val (.int c1)] [(.int (61 : Int32)), (.int c0)])) (fun _ kk => XS.bipush X0.here hx rfl (hb hby dex_6) kk) ?_
    by_cases c134 : c0 = (61 : Int32)
    · refine own_step (T' := s₁) (g' := (mkF m 11 #[.val (.int p0), .val (.int c0), .val (.int c1)] [])) (fun _ kk => XS.icmpNo X0.here hx rfl (hb hby dex_8) rfl (teq c134).2 kk) ?_
      obtain ⟨T135, X135, e135, st135⟩ := getS (host := "") X0 hx hZ hown (w80 hw) Via.refl e0 (S0.ext O0.2) (g := (mkF m 11 #[.val (.int p0), .val (.int c0), .val (.int c1)] [])) rfl (hb hby dex_11)
      refine own_step (T' := T135) (g' := (mkF m 14 #[.val (.int p0), .val (.int c0), .val (.int c1)] [(.ref o0)])) (fun _ kk => st135 _ kk) ?_
      exact own_retA X135 hx hlk (t := (.object "com/example/lakeledger/lakeledger/Filter$Operator")) hret rfl rfl rfl (hb hby dex_14) e135 ⟨by simp only [own_ex, if_pos c133, if_pos c134], F131, rfl⟩ (by decide) (by decide)
    · refine own_step (T' := s₁) (g' := (mkF m 15 #[.val (.int p0), .val (.int c0), .val (.int c1)] [])) (fun _ kk => XS.icmpYes X0.here hx rfl (pc0 := 8) (pc' := 15) rfl (hb hby dex_8) rfl (feq c134).2 (by decide) (by decide) kk) ?_
      refine own_step (T' := s₁) (g' := (mkF m 16 #[.val (.int p0), .val (.int c0), .val (.int c1)] [(.int c0)])) (fun _ kk => XS.iloadN X0.here hx rfl (hb hby dex_15) rfl kk) ?_
      refine own_step (T' := s₁) (g' := (mkF m 18 #[.val (.int p0), .val (.int c0), .val (.int c1)] [(.int (60 : Int32)), (.int c0)])) (fun _ kk => XS.bipush X0.here hx rfl (hb hby dex_16) kk) ?_
      by_cases c136 : c0 = (60 : Int32)
      · refine own_step (T' := s₁) (g' := (mkF m 21 #[.val (.int p0), .val (.int c0), .val (.int c1)] [])) (fun _ kk => XS.icmpNo X0.here hx rfl (hb hby dex_18) rfl (teq c136).2 kk) ?_
        obtain ⟨T137, X137, e137, st137⟩ := getS (host := "") X0 hx hZ hown (w77 hw) Via.refl e0 (S2.ext O0.2) (g := (mkF m 21 #[.val (.int p0), .val (.int c0), .val (.int c1)] [])) rfl (hb hby dex_21)
        refine own_step (T' := T137) (g' := (mkF m 24 #[.val (.int p0), .val (.int c0), .val (.int c1)] [(.ref o2)])) (fun _ kk => st137 _ kk) ?_
        exact own_retA X137 hx hlk (t := (.object "com/example/lakeledger/lakeledger/Filter$Operator")) hret rfl rfl rfl (hb hby dex_24) e137 ⟨by simp only [own_ex, if_pos c133, if_neg c134, if_pos c136], F131, rfl⟩ (by decide) (by decide)
      · refine own_step (T' := s₁) (g' := (mkF m 25 #[.val (.int p0), .val (.int c0), .val (.int c1)] [])) (fun _ kk => XS.icmpYes X0.here hx rfl (pc0 := 18) (pc' := 25) rfl (hb hby dex_18) rfl (feq c136).2 (by decide) (by decide) kk) ?_
        refine own_step (T' := s₁) (g' := (mkF m 26 #[.val (.int p0), .val (.int c0), .val (.int c1)] [(.int c0)])) (fun _ kk => XS.iloadN X0.here hx rfl (hb hby dex_25) rfl kk) ?_
        refine own_step (T' := s₁) (g' := (mkF m 28 #[.val (.int p0), .val (.int c0), .val (.int c1)] [(.int (62 : Int32)), (.int c0)])) (fun _ kk => XS.bipush X0.here hx rfl (hb hby dex_26) kk) ?_
        by_cases c138 : c0 = (62 : Int32)
        · refine own_step (T' := s₁) (g' := (mkF m 31 #[.val (.int p0), .val (.int c0), .val (.int c1)] [])) (fun _ kk => XS.icmpNo X0.here hx rfl (hb hby dex_28) rfl (teq c138).2 kk) ?_
          obtain ⟨T139, X139, e139, st139⟩ := getS (host := "") X0 hx hZ hown (w78 hw) Via.refl e0 (S4.ext O0.2) (g := (mkF m 31 #[.val (.int p0), .val (.int c0), .val (.int c1)] [])) rfl (hb hby dex_31)
          refine own_step (T' := T139) (g' := (mkF m 34 #[.val (.int p0), .val (.int c0), .val (.int c1)] [(.ref o4)])) (fun _ kk => st139 _ kk) ?_
          exact own_retA X139 hx hlk (t := (.object "com/example/lakeledger/lakeledger/Filter$Operator")) hret rfl rfl rfl (hb hby dex_34) e139 ⟨by simp only [own_ex, if_pos c133, if_neg c134, if_neg c136, if_pos c138], F131, rfl⟩ (by decide) (by decide)
        · refine own_step (T' := s₁) (g' := (mkF m 35 #[.val (.int p0), .val (.int c0), .val (.int c1)] [])) (fun _ kk => XS.icmpYes X0.here hx rfl (pc0 := 28) (pc' := 35) rfl (hb hby dex_28) rfl (feq c138).2 (by decide) (by decide) kk) ?_
          refine own_step (T' := s₁) (g' := (mkF m 36 #[.val (.int p0), .val (.int c0), .val (.int c1)] [.null])) (fun _ kk => XS.aconstNull X0.here hx rfl (hb hby dex_35) kk) ?_
          exact own_retA X0 hx hlk (t := (.object "com/example/lakeledger/lakeledger/Filter$Operator")) hret rfl rfl rfl (hb hby dex_36) e0 ⟨by simp only [own_ex, if_pos c133, if_neg c134, if_neg c136, if_neg c138], F131, rfl⟩ (by decide) (by decide)
  · refine own_step (T' := s₁) (g' := (mkF m 37 #[.val (.int p0), .val (.int c0), .val (.int c1)] [])) (fun _ kk => XS.icmpYes X0.here hx rfl (pc0 := 2) (pc' := 37) rfl (hb hby dex_2) rfl (feq c133).2 (by decide) (by decide) kk) ?_
    refine own_step (T' := s₁) (g' := (mkF m 38 #[.val (.int p0), .val (.int c0), .val (.int c1)] [(.int p0)])) (fun _ kk => XS.iloadN X0.here hx rfl (hb hby dex_37) rfl kk) ?_
    refine own_step (T' := s₁) (g' := (mkF m 39 #[.val (.int p0), .val (.int c0), .val (.int c1)] [(.int (2 : Int32)), (.int p0)])) (fun _ kk => XS.iconst X0.here hx rfl (hb hby dex_38) kk) ?_
    by_cases c140 : p0 = (2 : Int32)
    · refine own_step (T' := s₁) (g' := (mkF m 42 #[.val (.int p0), .val (.int c0), .val (.int c1)] [])) (fun _ kk => XS.icmpNo X0.here hx rfl (hb hby dex_39) rfl (teq c140).2 kk) ?_
      refine own_step (T' := s₁) (g' := (mkF m 43 #[.val (.int p0), .val (.int c0), .val (.int c1)] [(.int c1)])) (fun _ kk => XS.iloadN X0.here hx rfl (hb hby dex_42) rfl kk) ?_
      refine own_step (T' := s₁) (g' := (mkF m 45 #[.val (.int p0), .val (.int c0), .val (.int c1)] [(.int (61 : Int32)), (.int c1)])) (fun _ kk => XS.bipush X0.here hx rfl (hb hby dex_43) kk) ?_
      by_cases c141 : c1 = (61 : Int32)
      · refine own_step (T' := s₁) (g' := (mkF m 48 #[.val (.int p0), .val (.int c0), .val (.int c1)] [])) (fun _ kk => XS.icmpNo X0.here hx rfl (hb hby dex_45) rfl (teq c141).2 kk) ?_
        refine own_step (T' := s₁) (g' := (mkF m 49 #[.val (.int p0), .val (.int c0), .val (.int c1)] [(.int c0)])) (fun _ kk => XS.iloadN X0.here hx rfl (hb hby dex_48) rfl kk) ?_
        refine own_step (T' := s₁) (g' := (mkF m 51 #[.val (.int p0), .val (.int c0), .val (.int c1)] [(.int (33 : Int32)), (.int c0)])) (fun _ kk => XS.bipush X0.here hx rfl (hb hby dex_49) kk) ?_
        by_cases c142 : c0 = (33 : Int32)
        · refine own_step (T' := s₁) (g' := (mkF m 54 #[.val (.int p0), .val (.int c0), .val (.int c1)] [])) (fun _ kk => XS.icmpNo X0.here hx rfl (hb hby dex_51) rfl (teq c142).2 kk) ?_
          obtain ⟨T143, X143, e143, st143⟩ := getS (host := "") X0 hx hZ hown (w79 hw) Via.refl e0 (S1.ext O0.2) (g := (mkF m 54 #[.val (.int p0), .val (.int c0), .val (.int c1)] [])) rfl (hb hby dex_54)
          refine own_step (T' := T143) (g' := (mkF m 57 #[.val (.int p0), .val (.int c0), .val (.int c1)] [(.ref o1)])) (fun _ kk => st143 _ kk) ?_
          exact own_retA X143 hx hlk (t := (.object "com/example/lakeledger/lakeledger/Filter$Operator")) hret rfl rfl rfl (hb hby dex_57) e143 ⟨by simp only [own_ex, if_neg c133, if_pos c140, if_pos c141, if_pos c142], F131, rfl⟩ (by decide) (by decide)
        · refine own_step (T' := s₁) (g' := (mkF m 58 #[.val (.int p0), .val (.int c0), .val (.int c1)] [])) (fun _ kk => XS.icmpYes X0.here hx rfl (pc0 := 51) (pc' := 58) rfl (hb hby dex_51) rfl (feq c142).2 (by decide) (by decide) kk) ?_
          refine own_step (T' := s₁) (g' := (mkF m 59 #[.val (.int p0), .val (.int c0), .val (.int c1)] [(.int c0)])) (fun _ kk => XS.iloadN X0.here hx rfl (hb hby dex_58) rfl kk) ?_
          refine own_step (T' := s₁) (g' := (mkF m 61 #[.val (.int p0), .val (.int c0), .val (.int c1)] [(.int (60 : Int32)), (.int c0)])) (fun _ kk => XS.bipush X0.here hx rfl (hb hby dex_59) kk) ?_
          by_cases c144 : c0 = (60 : Int32)
          · refine own_step (T' := s₁) (g' := (mkF m 64 #[.val (.int p0), .val (.int c0), .val (.int c1)] [])) (fun _ kk => XS.icmpNo X0.here hx rfl (hb hby dex_61) rfl (teq c144).2 kk) ?_
            obtain ⟨T145, X145, e145, st145⟩ := getS (host := "") X0 hx hZ hown (w81 hw) Via.refl e0 (S3.ext O0.2) (g := (mkF m 64 #[.val (.int p0), .val (.int c0), .val (.int c1)] [])) rfl (hb hby dex_64)
            refine own_step (T' := T145) (g' := (mkF m 67 #[.val (.int p0), .val (.int c0), .val (.int c1)] [(.ref o3)])) (fun _ kk => st145 _ kk) ?_
            exact own_retA X145 hx hlk (t := (.object "com/example/lakeledger/lakeledger/Filter$Operator")) hret rfl rfl rfl (hb hby dex_67) e145 ⟨by simp only [own_ex, if_neg c133, if_pos c140, if_pos c141, if_neg c142, if_pos c144], F131, rfl⟩ (by decide) (by decide)
          · refine own_step (T' := s₁) (g' := (mkF m 68 #[.val (.int p0), .val (.int c0), .val (.int c1)] [])) (fun _ kk => XS.icmpYes X0.here hx rfl (pc0 := 61) (pc' := 68) rfl (hb hby dex_61) rfl (feq c144).2 (by decide) (by decide) kk) ?_
            refine own_step (T' := s₁) (g' := (mkF m 69 #[.val (.int p0), .val (.int c0), .val (.int c1)] [(.int c0)])) (fun _ kk => XS.iloadN X0.here hx rfl (hb hby dex_68) rfl kk) ?_
            refine own_step (T' := s₁) (g' := (mkF m 71 #[.val (.int p0), .val (.int c0), .val (.int c1)] [(.int (62 : Int32)), (.int c0)])) (fun _ kk => XS.bipush X0.here hx rfl (hb hby dex_69) kk) ?_
            by_cases c146 : c0 = (62 : Int32)
            · refine own_step (T' := s₁) (g' := (mkF m 74 #[.val (.int p0), .val (.int c0), .val (.int c1)] [])) (fun _ kk => XS.icmpNo X0.here hx rfl (hb hby dex_71) rfl (teq c146).2 kk) ?_
              obtain ⟨T147, X147, e147, st147⟩ := getS (host := "") X0 hx hZ hown (w82 hw) Via.refl e0 (S5.ext O0.2) (g := (mkF m 74 #[.val (.int p0), .val (.int c0), .val (.int c1)] [])) rfl (hb hby dex_74)
              refine own_step (T' := T147) (g' := (mkF m 77 #[.val (.int p0), .val (.int c0), .val (.int c1)] [(.ref o5)])) (fun _ kk => st147 _ kk) ?_
              exact own_retA X147 hx hlk (t := (.object "com/example/lakeledger/lakeledger/Filter$Operator")) hret rfl rfl rfl (hb hby dex_77) e147 ⟨by simp only [own_ex, if_neg c133, if_pos c140, if_pos c141, if_neg c142, if_neg c144, if_pos c146], F131, rfl⟩ (by decide) (by decide)
            · refine own_step (T' := s₁) (g' := (mkF m 78 #[.val (.int p0), .val (.int c0), .val (.int c1)] [])) (fun _ kk => XS.icmpYes X0.here hx rfl (pc0 := 71) (pc' := 78) rfl (hb hby dex_71) rfl (feq c146).2 (by decide) (by decide) kk) ?_
              refine own_step (T' := s₁) (g' := (mkF m 79 #[.val (.int p0), .val (.int c0), .val (.int c1)] [.null])) (fun _ kk => XS.aconstNull X0.here hx rfl (hb hby dex_78) kk) ?_
              exact own_retA X0 hx hlk (t := (.object "com/example/lakeledger/lakeledger/Filter$Operator")) hret rfl rfl rfl (hb hby dex_79) e0 ⟨by simp only [own_ex, if_neg c133, if_pos c140, if_pos c141, if_neg c142, if_neg c144, if_neg c146], F131, rfl⟩ (by decide) (by decide)
      · refine own_step (T' := s₁) (g' := (mkF m 78 #[.val (.int p0), .val (.int c0), .val (.int c1)] [])) (fun _ kk => XS.icmpYes X0.here hx rfl (pc0 := 45) (pc' := 78) rfl (hb hby dex_45) rfl (feq c141).2 (by decide) (by decide) kk) ?_
        refine own_step (T' := s₁) (g' := (mkF m 79 #[.val (.int p0), .val (.int c0), .val (.int c1)] [.null])) (fun _ kk => XS.aconstNull X0.here hx rfl (hb hby dex_78) kk) ?_
        exact own_retA X0 hx hlk (t := (.object "com/example/lakeledger/lakeledger/Filter$Operator")) hret rfl rfl rfl (hb hby dex_79) e0 ⟨by simp only [own_ex, if_neg c133, if_pos c140, if_neg c141], F131, rfl⟩ (by decide) (by decide)
    · refine own_step (T' := s₁) (g' := (mkF m 78 #[.val (.int p0), .val (.int c0), .val (.int c1)] [])) (fun _ kk => XS.icmpYes X0.here hx rfl (pc0 := 39) (pc' := 78) rfl (hb hby dex_39) rfl (feq c140).2 (by decide) (by decide) kk) ?_
      refine own_step (T' := s₁) (g' := (mkF m 79 #[.val (.int p0), .val (.int c0), .val (.int c1)] [.null])) (fun _ kk => XS.aconstNull X0.here hx rfl (hb hby dex_78) kk) ?_
      exact own_retA X0 hx hlk (t := (.object "com/example/lakeledger/lakeledger/Filter$Operator")) hret rfl rfl rfl (hb hby dex_79) e0 ⟨by simp only [own_ex, if_neg c133, if_neg c140], F131, rfl⟩ (by decide) (by decide)
set_option maxRecDepth 65536 in
set_option maxHeartbeats 40000000 in
theorem rm_law (l : Launch) (Z : State) (a0 : Array Value) (hw : ∀ d ∈ tables_1, d.before a0 Z = true) (p0 p1 p2 p3 zc : Int32) (va : Addr) (kv : ClassId) (o0 o1 o2 o3 o4 o5 : Addr) (y0 y1 y2 y3 y4 y5 : Addr) (h0 : Heap) (O0 : Old Z Z.heap.size h0) (S0 : Sta Z Z.heap "com/example/lakeledger/lakeledger/Filter$Operator" "EQ" "Lcom/example/lakeledger/lakeledger/Filter$Operator;" (.ref o0)) (S1 : Sta Z Z.heap "com/example/lakeledger/lakeledger/Filter$Operator" "NE" "Lcom/example/lakeledger/lakeledger/Filter$Operator;" (.ref o1)) (S2 : Sta Z Z.heap "com/example/lakeledger/lakeledger/Filter$Operator" "LT" "Lcom/example/lakeledger/lakeledger/Filter$Operator;" (.ref o2)) (S3 : Sta Z Z.heap "com/example/lakeledger/lakeledger/Filter$Operator" "LE" "Lcom/example/lakeledger/lakeledger/Filter$Operator;" (.ref o3)) (S4 : Sta Z Z.heap "com/example/lakeledger/lakeledger/Filter$Operator" "GT" "Lcom/example/lakeledger/lakeledger/Filter$Operator;" (.ref o4)) (S5 : Sta Z Z.heap "com/example/lakeledger/lakeledger/Filter$Operator" "GE" "Lcom/example/lakeledger/lakeledger/Filter$Operator;" (.ref o5)) (SV : Sta Z Z.heap "com/example/lakeledger/lakeledger/Filter$Operator" "$VALUES" "[Lcom/example/lakeledger/lakeledger/Filter$Operator;" (.ref va)) (AV : Arv Z Z.heap va kv (.object "com/example/lakeledger/lakeledger/Filter$Operator") (6 : Int32) [(.ref o0), (.ref o1), (.ref o2), (.ref o3), (.ref o4), (.ref o5)] .null) (EV : Exa Z Z.heap va "[Lcom/example/lakeledger/lakeledger/Filter$Operator;") (G0 : Fld Z Z.heap o0 "com/example/lakeledger/lakeledger/Filter$Operator" "symbol" "Ljava/lang/String;" (.ref y0)) (G1 : Fld Z Z.heap o1 "com/example/lakeledger/lakeledger/Filter$Operator" "symbol" "Ljava/lang/String;" (.ref y1)) (G2 : Fld Z Z.heap o2 "com/example/lakeledger/lakeledger/Filter$Operator" "symbol" "Ljava/lang/String;" (.ref y2)) (G3 : Fld Z Z.heap o3 "com/example/lakeledger/lakeledger/Filter$Operator" "symbol" "Ljava/lang/String;" (.ref y3)) (G4 : Fld Z Z.heap o4 "com/example/lakeledger/lakeledger/Filter$Operator" "symbol" "Ljava/lang/String;" (.ref y4)) (G5 : Fld Z Z.heap o5 "com/example/lakeledger/lakeledger/Filter$Operator" "symbol" "Ljava/lang/String;" (.ref y5)) (Y0 : own_Str Z Z.heap y0 [(61 : Int32)]) (Y1 : own_Str Z Z.heap y1 [(33 : Int32), (61 : Int32)]) (Y2 : own_Str Z Z.heap y2 [(60 : Int32)]) (Y3 : own_Str Z Z.heap y3 [(60 : Int32), (61 : Int32)]) (Y4 : own_Str Z Z.heap y4 [(62 : Int32)]) (Y5 : own_Str Z Z.heap y5 [(62 : Int32), (61 : Int32)]) (SC : Sta Z Z.heap "java/lang/String" "COMPACT_STRINGS" "Z" (.int zc)) (hzc : ¬ zc = (0 : Int32)) :
    own_ConW l Z (fun vm => CHv Z consts_1 vm h0) x code maxLocals ret room_1 #[(.int p0), (.int p1), (.int p2), (.int p3)] h0 (fun v h L => v = some (.int 1) ∧ Fr Z.heap.size L) := by
  refine own_conW (ls := #[.val (.int p0), .val (.int p1), .val (.int p2), .val (.int p3), .unset, .unset, .unset, .unset, .unset, .unset, .unset, .unset, .unset, .unset, .unset]) (pn_com_example_lakeledger_lakeledger_OperatorOfPinLaw) (fun m => by first | (simp [entryFrame, mkF, argsToLocals, Value.category, maxLocals]; done) | rfl) ?_
  intro p e s m below meth c s₁ hx hby hml0 hown0 hnm0 hret0 hlk hZ X0 e0 hS0 hJ
  have hml : c.maxLocals = 15 := hml0
  have hown : s.vm.findClass "com/example/lakeledger/lakeledger/OperatorOfPinLaw" = some m.cls := hown0
  have hnm : meth.name = "law" := hnm0
  have hret : meth.sig.returnType = (some .boolean) := hret0
  have F148 := Fr.nil Z.heap.size
  have F149 := Keep.refl h0 []
  refine own_step (T' := s₁) (g' := (mkF m 1 #[.val (.int p0), .val (.int p1), .val (.int p2), .val (.int p3), .unset, .unset, .unset, .unset, .unset, .unset, .unset, .unset, .unset, .unset, .unset] [(.int p0)])) (fun _ kk => XS.iloadN X0.here hx rfl (hb hby at_0) rfl kk) ?_
  refine own_step (T' := s₁) (g' := (mkF m 2 #[.val (.int p0), .val (.int p1), .val (.int p2), .val (.int p3), .unset, .unset, .unset, .unset, .unset, .unset, .unset, .unset, .unset, .unset, .unset] [(.int (3 : Int32)), (.int p0)])) (fun _ kk => XS.iconst X0.here hx rfl (hb hby at_1) kk) ?_
  refine own_step (T' := s₁) (g' := (mkF m 3 #[.val (.int p0), .val (.int p1), .val (.int p2), .val (.int p3), .unset, .unset, .unset, .unset, .unset, .unset, .unset, .unset, .unset, .unset, .unset] [(.int (p0 &&& (3 : Int32)))])) (fun _ kk => XS.iand X0.here hx rfl (hb hby at_2) rfl kk) ?_
  refine own_step (T' := s₁) (g' := (mkF m 5 #[.val (.int p0), .val (.int p1), .val (.int p2), .val (.int p3), .val (.int (p0 &&& (3 : Int32))), .unset, .unset, .unset, .unset, .unset, .unset, .unset, .unset, .unset, .unset] [])) (fun _ kk => XS.istore X0.here hx rfl (hb hby at_3) rfl (l' := #[.val (.int p0), .val (.int p1), .val (.int p2), .val (.int p3), .val (.int (p0 &&& (3 : Int32))), .unset, .unset, .unset, .unset, .unset, .unset, .unset, .unset, .unset, .unset]) rfl kk) ?_
  refine own_step (T' := s₁) (g' := (mkF m 6 #[.val (.int p0), .val (.int p1), .val (.int p2), .val (.int p3), .val (.int (p0 &&& (3 : Int32))), .unset, .unset, .unset, .unset, .unset, .unset, .unset, .unset, .unset, .unset] [(.int p1)])) (fun _ kk => XS.iloadN X0.here hx rfl (hb hby at_5) rfl kk) ?_
  obtain ⟨T151, L151, _, h151, X151, e151, ⟨c0, rfl, Nq150, Kq150, l150, u150⟩, st151⟩ := own_callS X0 hx hZ hown (w0 hw) (w1 hw) (w3 hw) (w2 hw) (by decide) (g := (mkF m 6 #[.val (.int p0), .val (.int p1), .val (.int p2), .val (.int p3), .val (.int (p0 &&& (3 : Int32))), .unset, .unset, .unset, .unset, .unset, .unset, .unset, .unset, .unset, .unset] [(.int p1)])) rfl (by rw [hml]; rfl) (argsL := [(.int p1)]) (rest := []) (rm_draw l Z a0 hw p1 _ O0) e0 pd__I_C rfl rfl (W := 0) (by show 2 * 0 + _ ≤ _; first | exact Nat.le_of_eq rfl | simp [own_cref own_of_ref]) (hb hby at_6) (by decide) (by decide) (by decide) (by decide)
  have F152 := Fr.app F148 Nq150
  have F153 := CHv.keep Kq150 all0 hJ
  have F154 := Nat.le_trans (Nat.zero_le _) Kq150.1
  have F155 := O0.keep Kq150 all0
  have F156 := F149.trans Kq150 all0
  have b0 : 0 ≤ c0.toInt ∧ c0.toInt ≤ 255 := ⟨l150, u150⟩
  refine own_step (T' := T151) (g' := (mkF m 9 #[.val (.int p0), .val (.int p1), .val (.int p2), .val (.int p3), .val (.int (p0 &&& (3 : Int32))), .unset, .unset, .unset, .unset, .unset, .unset, .unset, .unset, .unset, .unset] [(.int c0)])) (fun _ kk => st151 _ kk) ?_
  refine own_step (T' := T151) (g' := (mkF m 11 #[.val (.int p0), .val (.int p1), .val (.int p2), .val (.int p3), .val (.int (p0 &&& (3 : Int32))), .val (.int c0), .unset, .unset, .unset, .unset, .unset, .unset, .unset, .unset, .unset] [])) (fun _ kk => XS.istore X151.here hx rfl (hb hby at_9) rfl (l' := #[.val (.int p0), .val (.int p1), .val (.int p2), .val (.int p3), .val (.int (p0 &&& (3 : Int32))), .val (.int c0), .unset, .unset, .unset, .unset, .unset, .unset, .unset, .unset, .unset]) rfl kk) ?_
  refine own_step (T' := T151) (g' := (mkF m 12 #[.val (.int p0), .val (.int p1), .val (.int p2), .val (.int p3), .val (.int (p0 &&& (3 : Int32))), .val (.int c0), .unset, .unset, .unset, .unset, .unset, .unset, .unset, .unset, .unset] [(.int p2)])) (fun _ kk => XS.iloadN X151.here hx rfl (hb hby at_11) rfl kk) ?_
  obtain ⟨T158, L158, _, h158, X158, e158, ⟨c1, rfl, Nq157, Kq157, l157, u157⟩, st158⟩ := own_callS X151 hx hZ hown (w0 hw) (w1 hw) (w3 hw) (w2 hw) (by decide) (g := (mkF m 12 #[.val (.int p0), .val (.int p1), .val (.int p2), .val (.int p3), .val (.int (p0 &&& (3 : Int32))), .val (.int c0), .unset, .unset, .unset, .unset, .unset, .unset, .unset, .unset, .unset] [(.int p2)])) rfl (by rw [hml]; rfl) (argsL := [(.int p2)]) (rest := []) (rm_draw l Z a0 hw p2 _ F155) e151 pd__I_C rfl rfl (W := 0) (by show 2 * 0 + _ ≤ _; first | exact Nat.le_of_eq rfl | simp [own_cref own_of_ref]) (hb hby at_12) (by decide) (by decide) (by decide) (by decide)
  have F159 := Fr.app F152 Nq157
  have F160 := CHv.keep Kq157 all0 F153
  have F161 := Nat.le_trans F154 Kq157.1
  have F162 := F155.keep Kq157 all0
  have F163 := F156.trans Kq157 all0
  have b1 : 0 ≤ c1.toInt ∧ c1.toInt ≤ 255 := ⟨l157, u157⟩
  refine own_step (T' := T158) (g' := (mkF m 15 #[.val (.int p0), .val (.int p1), .val (.int p2), .val (.int p3), .val (.int (p0 &&& (3 : Int32))), .val (.int c0), .unset, .unset, .unset, .unset, .unset, .unset, .unset, .unset, .unset] [(.int c1)])) (fun _ kk => st158 _ kk) ?_
  refine own_step (T' := T158) (g' := (mkF m 17 #[.val (.int p0), .val (.int p1), .val (.int p2), .val (.int p3), .val (.int (p0 &&& (3 : Int32))), .val (.int c0), .val (.int c1), .unset, .unset, .unset, .unset, .unset, .unset, .unset, .unset] [])) (fun _ kk => XS.istore X158.here hx rfl (hb hby at_15) rfl (l' := #[.val (.int p0), .val (.int p1), .val (.int p2), .val (.int p3), .val (.int (p0 &&& (3 : Int32))), .val (.int c0), .val (.int c1), .unset, .unset, .unset, .unset, .unset, .unset, .unset, .unset]) rfl kk) ?_
  refine own_step (T' := T158) (g' := (mkF m 18 #[.val (.int p0), .val (.int p1), .val (.int p2), .val (.int p3), .val (.int (p0 &&& (3 : Int32))), .val (.int c0), .val (.int c1), .unset, .unset, .unset, .unset, .unset, .unset, .unset, .unset] [(.int p3)])) (fun _ kk => XS.iloadN X158.here hx rfl (hb hby at_17) rfl kk) ?_
  obtain ⟨T165, L165, _, h165, X165, e165, ⟨c2, rfl, Nq164, Kq164, l164, u164⟩, st165⟩ := own_callS X158 hx hZ hown (w0 hw) (w1 hw) (w3 hw) (w2 hw) (by decide) (g := (mkF m 18 #[.val (.int p0), .val (.int p1), .val (.int p2), .val (.int p3), .val (.int (p0 &&& (3 : Int32))), .val (.int c0), .val (.int c1), .unset, .unset, .unset, .unset, .unset, .unset, .unset, .unset] [(.int p3)])) rfl (by rw [hml]; rfl) (argsL := [(.int p3)]) (rest := []) (rm_draw l Z a0 hw p3 _ F162) e158 pd__I_C rfl rfl (W := 0) (by show 2 * 0 + _ ≤ _; first | exact Nat.le_of_eq rfl | simp [own_cref own_of_ref]) (hb hby at_18) (by decide) (by decide) (by decide) (by decide)
  have F166 := Fr.app F159 Nq164
  have F167 := CHv.keep Kq164 all0 F160
  have F168 := Nat.le_trans F161 Kq164.1
  have F169 := F162.keep Kq164 all0
  have F170 := F163.trans Kq164 all0
  have b2 : 0 ≤ c2.toInt ∧ c2.toInt ≤ 255 := ⟨l164, u164⟩
  refine own_step (T' := T165) (g' := (mkF m 21 #[.val (.int p0), .val (.int p1), .val (.int p2), .val (.int p3), .val (.int (p0 &&& (3 : Int32))), .val (.int c0), .val (.int c1), .unset, .unset, .unset, .unset, .unset, .unset, .unset, .unset] [(.int c2)])) (fun _ kk => st165 _ kk) ?_
  refine own_step (T' := T165) (g' := (mkF m 23 #[.val (.int p0), .val (.int p1), .val (.int p2), .val (.int p3), .val (.int (p0 &&& (3 : Int32))), .val (.int c0), .val (.int c1), .val (.int c2), .unset, .unset, .unset, .unset, .unset, .unset, .unset] [])) (fun _ kk => XS.istore X165.here hx rfl (hb hby at_21) rfl (l' := #[.val (.int p0), .val (.int p1), .val (.int p2), .val (.int p3), .val (.int (p0 &&& (3 : Int32))), .val (.int c0), .val (.int c1), .val (.int c2), .unset, .unset, .unset, .unset, .unset, .unset, .unset]) rfl kk) ?_
  refine own_step (T' := T165) (g' := (mkF m 24 #[.val (.int p0), .val (.int p1), .val (.int p2), .val (.int p3), .val (.int (p0 &&& (3 : Int32))), .val (.int c0), .val (.int c1), .val (.int c2), .unset, .unset, .unset, .unset, .unset, .unset, .unset] [(.int (0 : Int32))])) (fun _ kk => XS.iconst X165.here hx rfl (hb hby at_23) kk) ?_
  have hB : own_B [c0, c1, c2] := fun c hc => by
    simp only [List.mem_cons, List.not_mem_nil, or_false] at hc
    rcases hc with rfl | rfl | rfl
    · exact own_c8 b0.1 b0.2
    · exact own_c8 b1.1 b1.2
    · exact own_c8 b2.1 b2.2
  obtain ⟨T172, h172, cA172, X172, e172, E172, A172, st172⟩ := newP X165 hx hZ (aty := .char) (w4 hw) e165 (g := (mkF m 24 #[.val (.int p0), .val (.int p1), .val (.int p2), .val (.int p3), .val (.int (p0 &&& (3 : Int32))), .val (.int c0), .val (.int c1), .val (.int c2), .unset, .unset, .unset, .unset, .unset, .unset, .unset] [(.int (0 : Int32))])) rfl (hb hby at_24) rfl (by decide) (cap := 0) (by decide) (by decide) (by decide) (by decide)
  obtain ⟨a171, g172⟩ : ∃ z, z = h165.size := ⟨_, rfl⟩
  rw [← g172] at A172 st172
  have ge173 : Z.heap.size ≤ a171 := by rw [g172]; exact F169.2.1
  have ng174 : h0.size ≤ a171 := by rw [g172]; exact F170.1
  have F175 := CHv.ext E172 F167
  have F176 := Nat.le_trans F168 E172.1
  have F177 := F169.ext E172
  have F178 := F170.ext E172
  have F179 := Safe.ext E172 F167 (Safe.new (Nat.le_of_eq g172.symm))
  have F180 : Arv Z h172 a171 cA172 .char (0 : Int32) [] (.int 0) := Arv.new A172 (by decide)
  refine own_step (T' := T172) (g' := (mkF m 26 #[.val (.int p0), .val (.int p1), .val (.int p2), .val (.int p3), .val (.int (p0 &&& (3 : Int32))), .val (.int c0), .val (.int c1), .val (.int c2), .unset, .unset, .unset, .unset, .unset, .unset, .unset] [(.ref a171)])) (fun _ kk => st172 _ kk) ?_
  refine own_step (T' := T172) (g' := (mkF m 28 #[.val (.int p0), .val (.int p1), .val (.int p2), .val (.int p3), .val (.int (p0 &&& (3 : Int32))), .val (.int c0), .val (.int c1), .val (.int c2), .val (.ref a171), .unset, .unset, .unset, .unset, .unset, .unset] [])) (fun _ kk => XS.astore X172.here hx rfl (hb hby at_26) rfl rfl (l' := #[.val (.int p0), .val (.int p1), .val (.int p2), .val (.int p3), .val (.int (p0 &&& (3 : Int32))), .val (.int c0), .val (.int c1), .val (.int c2), .val (.ref a171), .unset, .unset, .unset, .unset, .unset, .unset]) rfl kk) ?_
  refine own_step (T' := T172) (g' := (mkF m 29 #[.val (.int p0), .val (.int p1), .val (.int p2), .val (.int p3), .val (.int (p0 &&& (3 : Int32))), .val (.int c0), .val (.int c1), .val (.int c2), .val (.ref a171), .unset, .unset, .unset, .unset, .unset, .unset] [(.int (1 : Int32))])) (fun _ kk => XS.iconst X172.here hx rfl (hb hby at_28) kk) ?_
  obtain ⟨T182, h182, cA182, X182, e182, E182, A182, st182⟩ := newP X172 hx hZ (aty := .char) (w4 hw) e172 (g := (mkF m 29 #[.val (.int p0), .val (.int p1), .val (.int p2), .val (.int p3), .val (.int (p0 &&& (3 : Int32))), .val (.int c0), .val (.int c1), .val (.int c2), .val (.ref a171), .unset, .unset, .unset, .unset, .unset, .unset] [(.int (1 : Int32))])) rfl (hb hby at_29) rfl (by decide) (cap := 1) (by decide) (by decide) (by decide) (by decide)
  obtain ⟨a181, g182⟩ : ∃ z, z = h172.size := ⟨_, rfl⟩
  rw [← g182] at A182 st182
  have ne183 : a171 ≠ a181 := Nat.ne_of_lt (by rw [g182]; exact F180.lt)
  have ge184 : Z.heap.size ≤ a181 := by rw [g182]; exact F177.2.1
  have ng185 : h0.size ≤ a181 := by rw [g182]; exact F178.1
  have F186 := Safe.ext E182 F175 F179
  have F187 := F180.ext E182
  have F188 := CHv.ext E182 F175
  have F189 := Nat.le_trans F176 E182.1
  have F190 := F177.ext E182
  have F191 := F178.ext E182
  have F192 := Safe.ext E182 F175 (Safe.new (Nat.le_of_eq g182.symm))
  have F193 : Arv Z h182 a181 cA182 .char (1 : Int32) [] (.int 0) := Arv.new A182 (by decide)
  refine own_step (T' := T182) (g' := (mkF m 31 #[.val (.int p0), .val (.int p1), .val (.int p2), .val (.int p3), .val (.int (p0 &&& (3 : Int32))), .val (.int c0), .val (.int c1), .val (.int c2), .val (.ref a171), .unset, .unset, .unset, .unset, .unset, .unset] [(.ref a181)])) (fun _ kk => st182 _ kk) ?_
  have F194 : Arv Z h182 a181 cA182 .char (1 : Int32) [(.int 0)] (.int 0) := Arv.pad F193 (pad_rep [] (.int 0) 1)
  refine own_step (T' := T182) (g' := (mkF m 32 #[.val (.int p0), .val (.int p1), .val (.int p2), .val (.int p3), .val (.int (p0 &&& (3 : Int32))), .val (.int c0), .val (.int c1), .val (.int c2), .val (.ref a171), .unset, .unset, .unset, .unset, .unset, .unset] [(.ref a181), (.ref a181)])) (fun _ kk => XS.dup X182.here hx rfl (hb hby at_31) rfl rfl kk) ?_
  refine own_step (T' := T182) (g' := (mkF m 33 #[.val (.int p0), .val (.int p1), .val (.int p2), .val (.int p3), .val (.int (p0 &&& (3 : Int32))), .val (.int c0), .val (.int c1), .val (.int c2), .val (.ref a171), .unset, .unset, .unset, .unset, .unset, .unset] [(.int (0 : Int32)), (.ref a181), (.ref a181)])) (fun _ kk => XS.iconst X182.here hx rfl (hb hby at_32) kk) ?_
  refine own_step (T' := T182) (g' := (mkF m 35 #[.val (.int p0), .val (.int p1), .val (.int p2), .val (.int p3), .val (.int (p0 &&& (3 : Int32))), .val (.int c0), .val (.int c1), .val (.int c2), .val (.ref a171), .unset, .unset, .unset, .unset, .unset, .unset] [(.int c0), (.int (0 : Int32)), (.ref a181), (.ref a181)])) (fun _ kk => XS.iload X182.here hx rfl (hb hby at_33) rfl kk) ?_
  obtain ⟨Ac195, Ar195, q195, Sz195, Nn195, Hs195, Gs195⟩ := F194
  obtain ⟨T195, h195, X195, e195, W195, st195⟩ := stC X182 hx hZ e182 Ar195 (j := (0 : Int32)) (x := c0) (inb_of Sz195 ⟨by decide, by decide⟩) (g := (mkF m 35 #[.val (.int p0), .val (.int p1), .val (.int p2), .val (.int p3), .val (.int (p0 &&& (3 : Int32))), .val (.int c0), .val (.int c1), .val (.int c2), .val (.ref a171), .unset, .unset, .unset, .unset, .unset, .unset] [(.int c0), (.int (0 : Int32)), (.ref a181), (.ref a181)])) rfl rfl (hb hby at_35)
  have F196 := Fr.snoc X195 F166 ge184
  have F197 := Safe.wr W195 F192 F188 F186
  have F198 := F187.other W195 ne183
  have F199 := Safe.wr W195 F192 F188 F192
  have F200 := CHv.wr W195 F192 F188
  have F201 := (Nat.le_trans F189 (Nat.le_of_eq (Wr.size W195).symm))
  have F202 := F190.wr W195 ge184
  have F203 := F191.wr W195 (Or.inr ng185)
  have F204 : Arv Z h195 a181 cA182 .char (1 : Int32) [(.int c0)] (.int 0) := by
    have q := Arv.set Ar195 q195 Sz195 Nn195 Hs195 Gs195 (fits_nar_char _) W195 0 rfl (Nat.le_of_ble_eq_true rfl)
    rw [own_n8 b0.1 b0.2] at q
    exact q
  refine own_step (T' := T195) (g' := (mkF m 36 #[.val (.int p0), .val (.int p1), .val (.int p2), .val (.int p3), .val (.int (p0 &&& (3 : Int32))), .val (.int c0), .val (.int c1), .val (.int c2), .val (.ref a171), .unset, .unset, .unset, .unset, .unset, .unset] [(.ref a181)])) (fun _ kk => st195 _ kk) ?_
  refine own_step (T' := T195) (g' := (mkF m 38 #[.val (.int p0), .val (.int p1), .val (.int p2), .val (.int p3), .val (.int (p0 &&& (3 : Int32))), .val (.int c0), .val (.int c1), .val (.int c2), .val (.ref a171), .val (.ref a181), .unset, .unset, .unset, .unset, .unset] [])) (fun _ kk => XS.astore X195.here hx rfl (hb hby at_36) rfl rfl (l' := #[.val (.int p0), .val (.int p1), .val (.int p2), .val (.int p3), .val (.int (p0 &&& (3 : Int32))), .val (.int c0), .val (.int c1), .val (.int c2), .val (.ref a171), .val (.ref a181), .unset, .unset, .unset, .unset, .unset]) rfl kk) ?_
  refine own_step (T' := T195) (g' := (mkF m 39 #[.val (.int p0), .val (.int p1), .val (.int p2), .val (.int p3), .val (.int (p0 &&& (3 : Int32))), .val (.int c0), .val (.int c1), .val (.int c2), .val (.ref a171), .val (.ref a181), .unset, .unset, .unset, .unset, .unset] [(.int (2 : Int32))])) (fun _ kk => XS.iconst X195.here hx rfl (hb hby at_38) kk) ?_
  obtain ⟨T206, h206, cA206, X206, e206, E206, A206, st206⟩ := newP X195 hx hZ (aty := .char) (w4 hw) e195 (g := (mkF m 39 #[.val (.int p0), .val (.int p1), .val (.int p2), .val (.int p3), .val (.int (p0 &&& (3 : Int32))), .val (.int c0), .val (.int c1), .val (.int c2), .val (.ref a171), .val (.ref a181), .unset, .unset, .unset, .unset, .unset] [(.int (2 : Int32))])) rfl (hb hby at_39) rfl (by decide) (cap := 2) (by decide) (by decide) (by decide) (by decide)
  obtain ⟨a205, g206⟩ : ∃ z, z = h195.size := ⟨_, rfl⟩
  rw [← g206] at A206 st206
  have ne207 : a171 ≠ a205 := Nat.ne_of_lt (by rw [g206]; exact F198.lt)
  have ne208 : a181 ≠ a205 := Nat.ne_of_lt (by rw [g206]; exact F204.lt)
  have ge209 : Z.heap.size ≤ a205 := by rw [g206]; exact F202.2.1
  have ng210 : h0.size ≤ a205 := by rw [g206]; exact F203.1
  have F211 := Safe.ext E206 F200 F197
  have F212 := F198.ext E206
  have F213 := Safe.ext E206 F200 F199
  have F214 := F204.ext E206
  have F215 := CHv.ext E206 F200
  have F216 := Nat.le_trans F201 E206.1
  have F217 := F202.ext E206
  have F218 := F203.ext E206
  have F219 := Safe.ext E206 F200 (Safe.new (Nat.le_of_eq g206.symm))
  have F220 : Arv Z h206 a205 cA206 .char (2 : Int32) [] (.int 0) := Arv.new A206 (by decide)
  refine own_step (T' := T206) (g' := (mkF m 41 #[.val (.int p0), .val (.int p1), .val (.int p2), .val (.int p3), .val (.int (p0 &&& (3 : Int32))), .val (.int c0), .val (.int c1), .val (.int c2), .val (.ref a171), .val (.ref a181), .unset, .unset, .unset, .unset, .unset] [(.ref a205)])) (fun _ kk => st206 _ kk) ?_
  have F221 : Arv Z h206 a205 cA206 .char (2 : Int32) [(.int 0), (.int 0)] (.int 0) := Arv.pad F220 (pad_rep [] (.int 0) 2)
  refine own_step (T' := T206) (g' := (mkF m 42 #[.val (.int p0), .val (.int p1), .val (.int p2), .val (.int p3), .val (.int (p0 &&& (3 : Int32))), .val (.int c0), .val (.int c1), .val (.int c2), .val (.ref a171), .val (.ref a181), .unset, .unset, .unset, .unset, .unset] [(.ref a205), (.ref a205)])) (fun _ kk => XS.dup X206.here hx rfl (hb hby at_41) rfl rfl kk) ?_
  refine own_step (T' := T206) (g' := (mkF m 43 #[.val (.int p0), .val (.int p1), .val (.int p2), .val (.int p3), .val (.int (p0 &&& (3 : Int32))), .val (.int c0), .val (.int c1), .val (.int c2), .val (.ref a171), .val (.ref a181), .unset, .unset, .unset, .unset, .unset] [(.int (0 : Int32)), (.ref a205), (.ref a205)])) (fun _ kk => XS.iconst X206.here hx rfl (hb hby at_42) kk) ?_
  refine own_step (T' := T206) (g' := (mkF m 45 #[.val (.int p0), .val (.int p1), .val (.int p2), .val (.int p3), .val (.int (p0 &&& (3 : Int32))), .val (.int c0), .val (.int c1), .val (.int c2), .val (.ref a171), .val (.ref a181), .unset, .unset, .unset, .unset, .unset] [(.int c0), (.int (0 : Int32)), (.ref a205), (.ref a205)])) (fun _ kk => XS.iload X206.here hx rfl (hb hby at_43) rfl kk) ?_
  obtain ⟨Ac222, Ar222, q222, Sz222, Nn222, Hs222, Gs222⟩ := F221
  obtain ⟨T222, h222, X222, e222, W222, st222⟩ := stC X206 hx hZ e206 Ar222 (j := (0 : Int32)) (x := c0) (inb_of Sz222 ⟨by decide, by decide⟩) (g := (mkF m 45 #[.val (.int p0), .val (.int p1), .val (.int p2), .val (.int p3), .val (.int (p0 &&& (3 : Int32))), .val (.int c0), .val (.int c1), .val (.int c2), .val (.ref a171), .val (.ref a181), .unset, .unset, .unset, .unset, .unset] [(.int c0), (.int (0 : Int32)), (.ref a205), (.ref a205)])) rfl rfl (hb hby at_45)
  have F223 := Fr.snoc X222 F196 ge209
  have F224 := Safe.wr W222 F219 F215 F211
  have F225 := F212.other W222 ne207
  have F226 := Safe.wr W222 F219 F215 F213
  have F227 := F214.other W222 ne208
  have F228 := Safe.wr W222 F219 F215 F219
  have F229 := CHv.wr W222 F219 F215
  have F230 := (Nat.le_trans F216 (Nat.le_of_eq (Wr.size W222).symm))
  have F231 := F217.wr W222 ge209
  have F232 := F218.wr W222 (Or.inr ng210)
  have F233 : Arv Z h222 a205 cA206 .char (2 : Int32) [(.int c0), (.int 0)] (.int 0) := by
    have q := Arv.set Ar222 q222 Sz222 Nn222 Hs222 Gs222 (fits_nar_char _) W222 0 rfl (Nat.le_of_ble_eq_true rfl)
    rw [own_n8 b0.1 b0.2] at q
    exact q
  refine own_step (T' := T222) (g' := (mkF m 46 #[.val (.int p0), .val (.int p1), .val (.int p2), .val (.int p3), .val (.int (p0 &&& (3 : Int32))), .val (.int c0), .val (.int c1), .val (.int c2), .val (.ref a171), .val (.ref a181), .unset, .unset, .unset, .unset, .unset] [(.ref a205)])) (fun _ kk => st222 _ kk) ?_
  refine own_step (T' := T222) (g' := (mkF m 47 #[.val (.int p0), .val (.int p1), .val (.int p2), .val (.int p3), .val (.int (p0 &&& (3 : Int32))), .val (.int c0), .val (.int c1), .val (.int c2), .val (.ref a171), .val (.ref a181), .unset, .unset, .unset, .unset, .unset] [(.ref a205), (.ref a205)])) (fun _ kk => XS.dup X222.here hx rfl (hb hby at_46) rfl rfl kk) ?_
  refine own_step (T' := T222) (g' := (mkF m 48 #[.val (.int p0), .val (.int p1), .val (.int p2), .val (.int p3), .val (.int (p0 &&& (3 : Int32))), .val (.int c0), .val (.int c1), .val (.int c2), .val (.ref a171), .val (.ref a181), .unset, .unset, .unset, .unset, .unset] [(.int (1 : Int32)), (.ref a205), (.ref a205)])) (fun _ kk => XS.iconst X222.here hx rfl (hb hby at_47) kk) ?_
  refine own_step (T' := T222) (g' := (mkF m 50 #[.val (.int p0), .val (.int p1), .val (.int p2), .val (.int p3), .val (.int (p0 &&& (3 : Int32))), .val (.int c0), .val (.int c1), .val (.int c2), .val (.ref a171), .val (.ref a181), .unset, .unset, .unset, .unset, .unset] [(.int c1), (.int (1 : Int32)), (.ref a205), (.ref a205)])) (fun _ kk => XS.iload X222.here hx rfl (hb hby at_48) rfl kk) ?_
  obtain ⟨Ac234, Ar234, q234, Sz234, Nn234, Hs234, Gs234⟩ := F233
  obtain ⟨T234, h234, X234, e234, W234, st234⟩ := stC X222 hx hZ e222 Ar234 (j := (1 : Int32)) (x := c1) (inb_of Sz234 ⟨by decide, by decide⟩) (g := (mkF m 50 #[.val (.int p0), .val (.int p1), .val (.int p2), .val (.int p3), .val (.int (p0 &&& (3 : Int32))), .val (.int c0), .val (.int c1), .val (.int c2), .val (.ref a171), .val (.ref a181), .unset, .unset, .unset, .unset, .unset] [(.int c1), (.int (1 : Int32)), (.ref a205), (.ref a205)])) rfl rfl (hb hby at_50)
  have F235 := Fr.snoc X234 F223 ge209
  have F236 := Safe.wr W234 F228 F229 F224
  have F237 := F225.other W234 ne207
  have F238 := Safe.wr W234 F228 F229 F226
  have F239 := F227.other W234 ne208
  have F240 := Safe.wr W234 F228 F229 F228
  have F241 := CHv.wr W234 F228 F229
  have F242 := (Nat.le_trans F230 (Nat.le_of_eq (Wr.size W234).symm))
  have F243 := F231.wr W234 ge209
  have F244 := F232.wr W234 (Or.inr ng210)
  have F245 : Arv Z h234 a205 cA206 .char (2 : Int32) [(.int c0), (.int c1)] (.int 0) := by
    have q := Arv.set Ar234 q234 Sz234 Nn234 Hs234 Gs234 (fits_nar_char _) W234 1 rfl (Nat.le_of_ble_eq_true rfl)
    rw [own_n8 b1.1 b1.2] at q
    exact q
  refine own_step (T' := T234) (g' := (mkF m 51 #[.val (.int p0), .val (.int p1), .val (.int p2), .val (.int p3), .val (.int (p0 &&& (3 : Int32))), .val (.int c0), .val (.int c1), .val (.int c2), .val (.ref a171), .val (.ref a181), .unset, .unset, .unset, .unset, .unset] [(.ref a205)])) (fun _ kk => st234 _ kk) ?_
  refine own_step (T' := T234) (g' := (mkF m 53 #[.val (.int p0), .val (.int p1), .val (.int p2), .val (.int p3), .val (.int (p0 &&& (3 : Int32))), .val (.int c0), .val (.int c1), .val (.int c2), .val (.ref a171), .val (.ref a181), .val (.ref a205), .unset, .unset, .unset, .unset] [])) (fun _ kk => XS.astore X234.here hx rfl (hb hby at_51) rfl rfl (l' := #[.val (.int p0), .val (.int p1), .val (.int p2), .val (.int p3), .val (.int (p0 &&& (3 : Int32))), .val (.int c0), .val (.int c1), .val (.int c2), .val (.ref a171), .val (.ref a181), .val (.ref a205), .unset, .unset, .unset, .unset]) rfl kk) ?_
  refine own_step (T' := T234) (g' := (mkF m 54 #[.val (.int p0), .val (.int p1), .val (.int p2), .val (.int p3), .val (.int (p0 &&& (3 : Int32))), .val (.int c0), .val (.int c1), .val (.int c2), .val (.ref a171), .val (.ref a181), .val (.ref a205), .unset, .unset, .unset, .unset] [(.int (3 : Int32))])) (fun _ kk => XS.iconst X234.here hx rfl (hb hby at_53) kk) ?_
  obtain ⟨T247, h247, cA247, X247, e247, E247, A247, st247⟩ := newP X234 hx hZ (aty := .char) (w4 hw) e234 (g := (mkF m 54 #[.val (.int p0), .val (.int p1), .val (.int p2), .val (.int p3), .val (.int (p0 &&& (3 : Int32))), .val (.int c0), .val (.int c1), .val (.int c2), .val (.ref a171), .val (.ref a181), .val (.ref a205), .unset, .unset, .unset, .unset] [(.int (3 : Int32))])) rfl (hb hby at_54) rfl (by decide) (cap := 3) (by decide) (by decide) (by decide) (by decide)
  obtain ⟨a246, g247⟩ : ∃ z, z = h234.size := ⟨_, rfl⟩
  rw [← g247] at A247 st247
  have ne248 : a171 ≠ a246 := Nat.ne_of_lt (by rw [g247]; exact F237.lt)
  have ne249 : a181 ≠ a246 := Nat.ne_of_lt (by rw [g247]; exact F239.lt)
  have ne250 : a205 ≠ a246 := Nat.ne_of_lt (by rw [g247]; exact F245.lt)
  have ge251 : Z.heap.size ≤ a246 := by rw [g247]; exact F243.2.1
  have ng252 : h0.size ≤ a246 := by rw [g247]; exact F244.1
  have F253 := Safe.ext E247 F241 F236
  have F254 := F237.ext E247
  have F255 := Safe.ext E247 F241 F238
  have F256 := F239.ext E247
  have F257 := Safe.ext E247 F241 F240
  have F258 := F245.ext E247
  have F259 := CHv.ext E247 F241
  have F260 := Nat.le_trans F242 E247.1
  have F261 := F243.ext E247
  have F262 := F244.ext E247
  have F263 := Safe.ext E247 F241 (Safe.new (Nat.le_of_eq g247.symm))
  have F264 : Arv Z h247 a246 cA247 .char (3 : Int32) [] (.int 0) := Arv.new A247 (by decide)
  refine own_step (T' := T247) (g' := (mkF m 56 #[.val (.int p0), .val (.int p1), .val (.int p2), .val (.int p3), .val (.int (p0 &&& (3 : Int32))), .val (.int c0), .val (.int c1), .val (.int c2), .val (.ref a171), .val (.ref a181), .val (.ref a205), .unset, .unset, .unset, .unset] [(.ref a246)])) (fun _ kk => st247 _ kk) ?_
  have F265 : Arv Z h247 a246 cA247 .char (3 : Int32) [(.int 0), (.int 0), (.int 0)] (.int 0) := Arv.pad F264 (pad_rep [] (.int 0) 3)
  refine own_step (T' := T247) (g' := (mkF m 57 #[.val (.int p0), .val (.int p1), .val (.int p2), .val (.int p3), .val (.int (p0 &&& (3 : Int32))), .val (.int c0), .val (.int c1), .val (.int c2), .val (.ref a171), .val (.ref a181), .val (.ref a205), .unset, .unset, .unset, .unset] [(.ref a246), (.ref a246)])) (fun _ kk => XS.dup X247.here hx rfl (hb hby at_56) rfl rfl kk) ?_
  refine own_step (T' := T247) (g' := (mkF m 58 #[.val (.int p0), .val (.int p1), .val (.int p2), .val (.int p3), .val (.int (p0 &&& (3 : Int32))), .val (.int c0), .val (.int c1), .val (.int c2), .val (.ref a171), .val (.ref a181), .val (.ref a205), .unset, .unset, .unset, .unset] [(.int (0 : Int32)), (.ref a246), (.ref a246)])) (fun _ kk => XS.iconst X247.here hx rfl (hb hby at_57) kk) ?_
  refine own_step (T' := T247) (g' := (mkF m 60 #[.val (.int p0), .val (.int p1), .val (.int p2), .val (.int p3), .val (.int (p0 &&& (3 : Int32))), .val (.int c0), .val (.int c1), .val (.int c2), .val (.ref a171), .val (.ref a181), .val (.ref a205), .unset, .unset, .unset, .unset] [(.int c0), (.int (0 : Int32)), (.ref a246), (.ref a246)])) (fun _ kk => XS.iload X247.here hx rfl (hb hby at_58) rfl kk) ?_
  obtain ⟨Ac266, Ar266, q266, Sz266, Nn266, Hs266, Gs266⟩ := F265
  obtain ⟨T266, h266, X266, e266, W266, st266⟩ := stC X247 hx hZ e247 Ar266 (j := (0 : Int32)) (x := c0) (inb_of Sz266 ⟨by decide, by decide⟩) (g := (mkF m 60 #[.val (.int p0), .val (.int p1), .val (.int p2), .val (.int p3), .val (.int (p0 &&& (3 : Int32))), .val (.int c0), .val (.int c1), .val (.int c2), .val (.ref a171), .val (.ref a181), .val (.ref a205), .unset, .unset, .unset, .unset] [(.int c0), (.int (0 : Int32)), (.ref a246), (.ref a246)])) rfl rfl (hb hby at_60)
  have F267 := Fr.snoc X266 F235 ge251
  have F268 := Safe.wr W266 F263 F259 F253
  have F269 := F254.other W266 ne248
  have F270 := Safe.wr W266 F263 F259 F255
  have F271 := F256.other W266 ne249
  have F272 := Safe.wr W266 F263 F259 F257
  have F273 := F258.other W266 ne250
  have F274 := Safe.wr W266 F263 F259 F263
  have F275 := CHv.wr W266 F263 F259
  have F276 := (Nat.le_trans F260 (Nat.le_of_eq (Wr.size W266).symm))
  have F277 := F261.wr W266 ge251
  have F278 := F262.wr W266 (Or.inr ng252)
  have F279 : Arv Z h266 a246 cA247 .char (3 : Int32) [(.int c0), (.int 0), (.int 0)] (.int 0) := by
    have q := Arv.set Ar266 q266 Sz266 Nn266 Hs266 Gs266 (fits_nar_char _) W266 0 rfl (Nat.le_of_ble_eq_true rfl)
    rw [own_n8 b0.1 b0.2] at q
    exact q
  refine own_step (T' := T266) (g' := (mkF m 61 #[.val (.int p0), .val (.int p1), .val (.int p2), .val (.int p3), .val (.int (p0 &&& (3 : Int32))), .val (.int c0), .val (.int c1), .val (.int c2), .val (.ref a171), .val (.ref a181), .val (.ref a205), .unset, .unset, .unset, .unset] [(.ref a246)])) (fun _ kk => st266 _ kk) ?_
  refine own_step (T' := T266) (g' := (mkF m 62 #[.val (.int p0), .val (.int p1), .val (.int p2), .val (.int p3), .val (.int (p0 &&& (3 : Int32))), .val (.int c0), .val (.int c1), .val (.int c2), .val (.ref a171), .val (.ref a181), .val (.ref a205), .unset, .unset, .unset, .unset] [(.ref a246), (.ref a246)])) (fun _ kk => XS.dup X266.here hx rfl (hb hby at_61) rfl rfl kk) ?_
  refine own_step (T' := T266) (g' := (mkF m 63 #[.val (.int p0), .val (.int p1), .val (.int p2), .val (.int p3), .val (.int (p0 &&& (3 : Int32))), .val (.int c0), .val (.int c1), .val (.int c2), .val (.ref a171), .val (.ref a181), .val (.ref a205), .unset, .unset, .unset, .unset] [(.int (1 : Int32)), (.ref a246), (.ref a246)])) (fun _ kk => XS.iconst X266.here hx rfl (hb hby at_62) kk) ?_
  refine own_step (T' := T266) (g' := (mkF m 65 #[.val (.int p0), .val (.int p1), .val (.int p2), .val (.int p3), .val (.int (p0 &&& (3 : Int32))), .val (.int c0), .val (.int c1), .val (.int c2), .val (.ref a171), .val (.ref a181), .val (.ref a205), .unset, .unset, .unset, .unset] [(.int c1), (.int (1 : Int32)), (.ref a246), (.ref a246)])) (fun _ kk => XS.iload X266.here hx rfl (hb hby at_63) rfl kk) ?_
  obtain ⟨Ac280, Ar280, q280, Sz280, Nn280, Hs280, Gs280⟩ := F279
  obtain ⟨T280, h280, X280, e280, W280, st280⟩ := stC X266 hx hZ e266 Ar280 (j := (1 : Int32)) (x := c1) (inb_of Sz280 ⟨by decide, by decide⟩) (g := (mkF m 65 #[.val (.int p0), .val (.int p1), .val (.int p2), .val (.int p3), .val (.int (p0 &&& (3 : Int32))), .val (.int c0), .val (.int c1), .val (.int c2), .val (.ref a171), .val (.ref a181), .val (.ref a205), .unset, .unset, .unset, .unset] [(.int c1), (.int (1 : Int32)), (.ref a246), (.ref a246)])) rfl rfl (hb hby at_65)
  have F281 := Fr.snoc X280 F267 ge251
  have F282 := Safe.wr W280 F274 F275 F268
  have F283 := F269.other W280 ne248
  have F284 := Safe.wr W280 F274 F275 F270
  have F285 := F271.other W280 ne249
  have F286 := Safe.wr W280 F274 F275 F272
  have F287 := F273.other W280 ne250
  have F288 := Safe.wr W280 F274 F275 F274
  have F289 := CHv.wr W280 F274 F275
  have F290 := (Nat.le_trans F276 (Nat.le_of_eq (Wr.size W280).symm))
  have F291 := F277.wr W280 ge251
  have F292 := F278.wr W280 (Or.inr ng252)
  have F293 : Arv Z h280 a246 cA247 .char (3 : Int32) [(.int c0), (.int c1), (.int 0)] (.int 0) := by
    have q := Arv.set Ar280 q280 Sz280 Nn280 Hs280 Gs280 (fits_nar_char _) W280 1 rfl (Nat.le_of_ble_eq_true rfl)
    rw [own_n8 b1.1 b1.2] at q
    exact q
  refine own_step (T' := T280) (g' := (mkF m 66 #[.val (.int p0), .val (.int p1), .val (.int p2), .val (.int p3), .val (.int (p0 &&& (3 : Int32))), .val (.int c0), .val (.int c1), .val (.int c2), .val (.ref a171), .val (.ref a181), .val (.ref a205), .unset, .unset, .unset, .unset] [(.ref a246)])) (fun _ kk => st280 _ kk) ?_
  refine own_step (T' := T280) (g' := (mkF m 67 #[.val (.int p0), .val (.int p1), .val (.int p2), .val (.int p3), .val (.int (p0 &&& (3 : Int32))), .val (.int c0), .val (.int c1), .val (.int c2), .val (.ref a171), .val (.ref a181), .val (.ref a205), .unset, .unset, .unset, .unset] [(.ref a246), (.ref a246)])) (fun _ kk => XS.dup X280.here hx rfl (hb hby at_66) rfl rfl kk) ?_
  refine own_step (T' := T280) (g' := (mkF m 68 #[.val (.int p0), .val (.int p1), .val (.int p2), .val (.int p3), .val (.int (p0 &&& (3 : Int32))), .val (.int c0), .val (.int c1), .val (.int c2), .val (.ref a171), .val (.ref a181), .val (.ref a205), .unset, .unset, .unset, .unset] [(.int (2 : Int32)), (.ref a246), (.ref a246)])) (fun _ kk => XS.iconst X280.here hx rfl (hb hby at_67) kk) ?_
  refine own_step (T' := T280) (g' := (mkF m 70 #[.val (.int p0), .val (.int p1), .val (.int p2), .val (.int p3), .val (.int (p0 &&& (3 : Int32))), .val (.int c0), .val (.int c1), .val (.int c2), .val (.ref a171), .val (.ref a181), .val (.ref a205), .unset, .unset, .unset, .unset] [(.int c2), (.int (2 : Int32)), (.ref a246), (.ref a246)])) (fun _ kk => XS.iload X280.here hx rfl (hb hby at_68) rfl kk) ?_
  obtain ⟨Ac294, Ar294, q294, Sz294, Nn294, Hs294, Gs294⟩ := F293
  obtain ⟨T294, h294, X294, e294, W294, st294⟩ := stC X280 hx hZ e280 Ar294 (j := (2 : Int32)) (x := c2) (inb_of Sz294 ⟨by decide, by decide⟩) (g := (mkF m 70 #[.val (.int p0), .val (.int p1), .val (.int p2), .val (.int p3), .val (.int (p0 &&& (3 : Int32))), .val (.int c0), .val (.int c1), .val (.int c2), .val (.ref a171), .val (.ref a181), .val (.ref a205), .unset, .unset, .unset, .unset] [(.int c2), (.int (2 : Int32)), (.ref a246), (.ref a246)])) rfl rfl (hb hby at_70)
  have F295 := Fr.snoc X294 F281 ge251
  have F296 := Safe.wr W294 F288 F289 F282
  have F297 := F283.other W294 ne248
  have F298 := Safe.wr W294 F288 F289 F284
  have F299 := F285.other W294 ne249
  have F300 := Safe.wr W294 F288 F289 F286
  have F301 := F287.other W294 ne250
  have F302 := Safe.wr W294 F288 F289 F288
  have F303 := CHv.wr W294 F288 F289
  have F304 := (Nat.le_trans F290 (Nat.le_of_eq (Wr.size W294).symm))
  have F305 := F291.wr W294 ge251
  have F306 := F292.wr W294 (Or.inr ng252)
  have F307 : Arv Z h294 a246 cA247 .char (3 : Int32) [(.int c0), (.int c1), (.int c2)] (.int 0) := by
    have q := Arv.set Ar294 q294 Sz294 Nn294 Hs294 Gs294 (fits_nar_char _) W294 2 rfl (Nat.le_of_ble_eq_true rfl)
    rw [own_n8 b2.1 b2.2] at q
    exact q
  refine own_step (T' := T294) (g' := (mkF m 71 #[.val (.int p0), .val (.int p1), .val (.int p2), .val (.int p3), .val (.int (p0 &&& (3 : Int32))), .val (.int c0), .val (.int c1), .val (.int c2), .val (.ref a171), .val (.ref a181), .val (.ref a205), .unset, .unset, .unset, .unset] [(.ref a246)])) (fun _ kk => st294 _ kk) ?_
  refine own_step (T' := T294) (g' := (mkF m 73 #[.val (.int p0), .val (.int p1), .val (.int p2), .val (.int p3), .val (.int (p0 &&& (3 : Int32))), .val (.int c0), .val (.int c1), .val (.int c2), .val (.ref a171), .val (.ref a181), .val (.ref a205), .val (.ref a246), .unset, .unset, .unset] [])) (fun _ kk => XS.astore X294.here hx rfl (hb hby at_71) rfl rfl (l' := #[.val (.int p0), .val (.int p1), .val (.int p2), .val (.int p3), .val (.int (p0 &&& (3 : Int32))), .val (.int c0), .val (.int c1), .val (.int c2), .val (.ref a171), .val (.ref a181), .val (.ref a205), .val (.ref a246), .unset, .unset, .unset]) rfl kk) ?_
  refine own_step (T' := T294) (g' := (mkF m 75 #[.val (.int p0), .val (.int p1), .val (.int p2), .val (.int p3), .val (.int (p0 &&& (3 : Int32))), .val (.int c0), .val (.int c1), .val (.int c2), .val (.ref a171), .val (.ref a181), .val (.ref a205), .val (.ref a246), .unset, .unset, .unset] [(.ref a171)])) (fun _ kk => XS.aload X294.here hx rfl (hb hby at_73) rfl rfl kk) ?_
  refine own_step (T' := T294) (g' := (mkF m 77 #[.val (.int p0), .val (.int p1), .val (.int p2), .val (.int p3), .val (.int (p0 &&& (3 : Int32))), .val (.int c0), .val (.int c1), .val (.int c2), .val (.ref a171), .val (.ref a181), .val (.ref a205), .val (.ref a246), .val (.ref a171), .unset, .unset] [])) (fun _ kk => XS.astore X294.here hx rfl (hb hby at_75) rfl rfl (l' := #[.val (.int p0), .val (.int p1), .val (.int p2), .val (.int p3), .val (.int (p0 &&& (3 : Int32))), .val (.int c0), .val (.int c1), .val (.int c2), .val (.ref a171), .val (.ref a181), .val (.ref a205), .val (.ref a246), .val (.ref a171), .unset, .unset]) rfl kk) ?_
  refine own_step (T' := T294) (g' := (mkF m 79 #[.val (.int p0), .val (.int p1), .val (.int p2), .val (.int p3), .val (.int (p0 &&& (3 : Int32))), .val (.int c0), .val (.int c1), .val (.int c2), .val (.ref a171), .val (.ref a181), .val (.ref a205), .val (.ref a246), .val (.ref a171), .unset, .unset] [(.int (p0 &&& (3 : Int32)))])) (fun _ kk => XS.iload X294.here hx rfl (hb hby at_77) rfl kk) ?_
  refine own_step (T' := T294) (g' := (mkF m 80 #[.val (.int p0), .val (.int p1), .val (.int p2), .val (.int p3), .val (.int (p0 &&& (3 : Int32))), .val (.int c0), .val (.int c1), .val (.int c2), .val (.ref a171), .val (.ref a181), .val (.ref a205), .val (.ref a246), .val (.ref a171), .unset, .unset] [(.int (1 : Int32)), (.int (p0 &&& (3 : Int32)))])) (fun _ kk => XS.iconst X294.here hx rfl (hb hby at_79) kk) ?_
  rcases own_m3 p0 with hn | hn | hn | hn
  · rw [hn]
    refine own_step (T' := T294) (g' := (mkF m 90 #[.val (.int p0), .val (.int p1), .val (.int p2), .val (.int p3), .val (.int (0 : Int32)), .val (.int c0), .val (.int c1), .val (.int c2), .val (.ref a171), .val (.ref a181), .val (.ref a205), .val (.ref a246), .val (.ref a171), .unset, .unset] [])) (fun _ kk => XS.icmpYes X294.here hx rfl (pc0 := 80) (pc' := 90) rfl (hb hby at_80) rfl (feq (by decide)).2 (by decide) (by decide) kk) ?_
    refine own_step (T' := T294) (g' := (mkF m 92 #[.val (.int p0), .val (.int p1), .val (.int p2), .val (.int p3), .val (.int (0 : Int32)), .val (.int c0), .val (.int c1), .val (.int c2), .val (.ref a171), .val (.ref a181), .val (.ref a205), .val (.ref a246), .val (.ref a171), .unset, .unset] [(.int (0 : Int32))])) (fun _ kk => XS.iload X294.here hx rfl (hb hby at_90) rfl kk) ?_
    refine own_step (T' := T294) (g' := (mkF m 93 #[.val (.int p0), .val (.int p1), .val (.int p2), .val (.int p3), .val (.int (0 : Int32)), .val (.int c0), .val (.int c1), .val (.int c2), .val (.ref a171), .val (.ref a181), .val (.ref a205), .val (.ref a246), .val (.ref a171), .unset, .unset] [(.int (2 : Int32)), (.int (0 : Int32))])) (fun _ kk => XS.iconst X294.here hx rfl (hb hby at_92) kk) ?_
    refine own_step (T' := T294) (g' := (mkF m 103 #[.val (.int p0), .val (.int p1), .val (.int p2), .val (.int p3), .val (.int (0 : Int32)), .val (.int c0), .val (.int c1), .val (.int c2), .val (.ref a171), .val (.ref a181), .val (.ref a205), .val (.ref a246), .val (.ref a171), .unset, .unset] [])) (fun _ kk => XS.icmpYes X294.here hx rfl (pc0 := 93) (pc' := 103) rfl (hb hby at_93) rfl (feq (by decide)).2 (by decide) (by decide) kk) ?_
    refine own_step (T' := T294) (g' := (mkF m 105 #[.val (.int p0), .val (.int p1), .val (.int p2), .val (.int p3), .val (.int (0 : Int32)), .val (.int c0), .val (.int c1), .val (.int c2), .val (.ref a171), .val (.ref a181), .val (.ref a205), .val (.ref a246), .val (.ref a171), .unset, .unset] [(.int (0 : Int32))])) (fun _ kk => XS.iload X294.here hx rfl (hb hby at_103) rfl kk) ?_
    refine own_step (T' := T294) (g' := (mkF m 106 #[.val (.int p0), .val (.int p1), .val (.int p2), .val (.int p3), .val (.int (0 : Int32)), .val (.int c0), .val (.int c1), .val (.int c2), .val (.ref a171), .val (.ref a181), .val (.ref a205), .val (.ref a246), .val (.ref a171), .unset, .unset] [(.int (3 : Int32)), (.int (0 : Int32))])) (fun _ kk => XS.iconst X294.here hx rfl (hb hby at_105) kk) ?_
    refine own_step (T' := T294) (g' := (mkF m 113 #[.val (.int p0), .val (.int p1), .val (.int p2), .val (.int p3), .val (.int (0 : Int32)), .val (.int c0), .val (.int c1), .val (.int c2), .val (.ref a171), .val (.ref a181), .val (.ref a205), .val (.ref a246), .val (.ref a171), .unset, .unset] [])) (fun _ kk => XS.icmpYes X294.here hx rfl (pc0 := 106) (pc' := 113) rfl (hb hby at_106) rfl (feq (by decide)).2 (by decide) (by decide) kk) ?_
    obtain ⟨T309, h309, X309, e309, E309, A309, D309, U309, st309⟩ := newO X294 hx hZ hown (w5 hw) (w6 hw) (w7 hw) e294 (g := (mkF m 113 #[.val (.int p0), .val (.int p1), .val (.int p2), .val (.int p3), .val (.int (0 : Int32)), .val (.int c0), .val (.int c1), .val (.int c2), .val (.ref a171), .val (.ref a181), .val (.ref a205), .val (.ref a246), .val (.ref a171), .unset, .unset] [])) rfl (hb hby at_113) (by decide) (by decide)
    obtain ⟨a308, g309⟩ : ∃ z, z = h294.size := ⟨_, rfl⟩
    rw [← g309] at A309 D309 U309 st309
    have ne310 : a171 ≠ a308 := Nat.ne_of_lt (by rw [g309]; exact F297.lt)
    have ne311 : a181 ≠ a308 := Nat.ne_of_lt (by rw [g309]; exact F299.lt)
    have ne312 : a205 ≠ a308 := Nat.ne_of_lt (by rw [g309]; exact F301.lt)
    have ne313 : a246 ≠ a308 := Nat.ne_of_lt (by rw [g309]; exact F307.lt)
    have ge314 : Z.heap.size ≤ a308 := by rw [g309]; exact F305.2.1
    have ng315 : h0.size ≤ a308 := by rw [g309]; exact F306.1
    have F316 := Safe.ext E309 F303 F296
    have F317 := F297.ext E309
    have F318 := Safe.ext E309 F303 F298
    have F319 := F299.ext E309
    have F320 := Safe.ext E309 F303 F300
    have F321 := F301.ext E309
    have F322 := Safe.ext E309 F303 F302
    have F323 := F307.ext E309
    have F324 := CHv.ext E309 F303
    have F325 := Nat.le_trans F304 E309.1
    have F326 := F305.ext E309
    have F327 := F306.ext E309
    have F328 := Safe.ext E309 F303 (Safe.new (Nat.le_of_eq g309.symm))
    have F329 : own_Obj Z h309 a308 "java/lang/String" := own_Obj.new A309 U309
    refine own_step (T' := T309) (g' := (mkF m 116 #[.val (.int p0), .val (.int p1), .val (.int p2), .val (.int p3), .val (.int (0 : Int32)), .val (.int c0), .val (.int c1), .val (.int c2), .val (.ref a171), .val (.ref a181), .val (.ref a205), .val (.ref a246), .val (.ref a171), .unset, .unset] [(.ref a308)])) (fun _ kk => st309 _ kk) ?_
    refine own_step (T' := T309) (g' := (mkF m 117 #[.val (.int p0), .val (.int p1), .val (.int p2), .val (.int p3), .val (.int (0 : Int32)), .val (.int c0), .val (.int c1), .val (.int c2), .val (.ref a171), .val (.ref a181), .val (.ref a205), .val (.ref a246), .val (.ref a171), .unset, .unset] [(.ref a308), (.ref a308)])) (fun _ kk => XS.dup X309.here hx rfl (hb hby at_116) rfl rfl kk) ?_
    refine own_step (T' := T309) (g' := (mkF m 119 #[.val (.int p0), .val (.int p1), .val (.int p2), .val (.int p3), .val (.int (0 : Int32)), .val (.int c0), .val (.int c1), .val (.int c2), .val (.ref a171), .val (.ref a181), .val (.ref a205), .val (.ref a246), .val (.ref a171), .unset, .unset] [(.ref a171), (.ref a308), (.ref a308)])) (fun _ kk => XS.aload X309.here hx rfl (hb hby at_117) rfl rfl kk) ?_
    obtain ⟨T330, L330, _, h330, X330, e330, hS330, hZ330, ho330, ⟨rfl, Nqa308, Kqa308, Sqa308⟩, st330⟩ := own_callCW X309 hx hZ hown hS0 F325 rfl (w8 hw) (w9 hw) (w10 hw) (w7 hw) (by decide) (a := a308) (g := (mkF m 119 #[.val (.int p0), .val (.int p1), .val (.int p2), .val (.int p3), .val (.int (0 : Int32)), .val (.int c0), .val (.int c1), .val (.int c2), .val (.ref a171), .val (.ref a181), .val (.ref a205), .val (.ref a246), .val (.ref a171), .unset, .unset] [(.ref a171), (.ref a308), (.ref a308)])) rfl (by rw [hml]; rfl) (argsL := [(.ref a171)]) (rest := [(.ref a308)]) (rm_sc l Z a0 hw a308 a171 cA172 _ F326 F329 ge314 F317) (fun m meth c A Y => ⟨(CHv.at Y hZ (own_EW hw) F324).1, (CHv.at Y hZ (own_EW hw) F324).safe F329.lt F328⟩) e309 pd___C_V rfl rfl (W := 1) (by show 2 * 0 + _ ≤ _; first | exact Nat.le_of_eq rfl | simp [own_cref own_of_ref]) (hb hby at_119) (by decide) (by decide) (by decide) (by decide)
    have F331 := Fr.app F295 Nqa308
    have F332 := F317.keep Kqa308 (ninS ne310 nin0)
    have F333 := F319.keep Kqa308 (ninS ne311 nin0)
    have F334 := F321.keep Kqa308 (ninS ne312 nin0)
    have F335 := F323.keep Kqa308 (ninS ne313 nin0)
    have F336 := F329.keep Kqa308
    have F337 := Nat.le_trans F325 Kqa308.1
    have F338 := F326.keep Kqa308 (allS ge314 all0)
    have F339 := F327.trans Kqa308 (allS (Or.inr ng315) all0)
    refine own_step (T' := T330) (g' := (mkF m 122 #[.val (.int p0), .val (.int p1), .val (.int p2), .val (.int p3), .val (.int (0 : Int32)), .val (.int c0), .val (.int c1), .val (.int c2), .val (.ref a171), .val (.ref a181), .val (.ref a205), .val (.ref a246), .val (.ref a171), .unset, .unset] [(.ref a308)])) (fun _ kk => st330 _ kk) ?_
    refine own_step (T' := T330) (g' := (mkF m 124 #[.val (.int p0), .val (.int p1), .val (.int p2), .val (.int p3), .val (.int (0 : Int32)), .val (.int c0), .val (.int c1), .val (.int c2), .val (.ref a171), .val (.ref a181), .val (.ref a205), .val (.ref a246), .val (.ref a171), .val (.ref a308), .unset] [])) (fun _ kk => XS.astore X330.here hx rfl (hb hby at_122) rfl rfl (l' := #[.val (.int p0), .val (.int p1), .val (.int p2), .val (.int p3), .val (.int (0 : Int32)), .val (.int c0), .val (.int c1), .val (.int c2), .val (.ref a171), .val (.ref a181), .val (.ref a205), .val (.ref a246), .val (.ref a171), .val (.ref a308), .unset]) rfl kk) ?_
    refine own_step (T' := T330) (g' := (mkF m 126 #[.val (.int p0), .val (.int p1), .val (.int p2), .val (.int p3), .val (.int (0 : Int32)), .val (.int c0), .val (.int c1), .val (.int c2), .val (.ref a171), .val (.ref a181), .val (.ref a205), .val (.ref a246), .val (.ref a171), .val (.ref a308), .unset] [(.ref a308)])) (fun _ kk => XS.aload X330.here hx rfl (hb hby at_124) rfl rfl kk) ?_
    obtain ⟨T340, L340, _, h340, X340, e340, ⟨rfl, No, Ko⟩, st340⟩ := own_callS X330 hx hZ330 ho330 (w26 hw) (w27 hw) (w29 hw) (w28 hw) (by decide) (g := (mkF m 126 #[.val (.int p0), .val (.int p1), .val (.int p2), .val (.int p3), .val (.int (0 : Int32)), .val (.int c0), .val (.int c1), .val (.int c2), .val (.ref a171), .val (.ref a181), .val (.ref a205), .val (.ref a246), .val (.ref a171), .val (.ref a308), .unset] [(.ref a308)])) rfl (by rw [hml]; rfl) (argsL := [(.ref a308)]) (rest := []) (rm_of l Z a0 hw a308 va kv o0 o1 o2 o3 o4 o5 y0 y1 y2 y3 y4 y5 [] zc _ F338 Sqa308 (hB.take 0) (by show 0 ≤ 4000; decide) SV AV EV G0 G1 G2 G3 G4 G5 Y0 Y1 Y2 Y3 Y4 Y5 SC hzc) e330 pd__Ljava_lang_String__Lcom_example_lakeledger_lakeledger_Filter_Operator_ rfl rfl (W := 0) (by show 2 * 0 + _ ≤ _; first | exact Nat.le_of_eq rfl | simp [own_cref own_of_ref]) (hb hby at_126) (by decide) (by decide) (by decide) (by decide)
    have F341 := Fr.app F331 No
    have F342 := Nat.le_trans (Nat.le_refl _) Ko.1
    have F343 := F338.keep Ko all0
    have F344 := F339.trans Ko all0
    refine own_step (T' := T340) (g' := (mkF m 129 #[.val (.int p0), .val (.int p1), .val (.int p2), .val (.int p3), .val (.int (0 : Int32)), .val (.int c0), .val (.int c1), .val (.int c2), .val (.ref a171), .val (.ref a181), .val (.ref a205), .val (.ref a246), .val (.ref a171), .val (.ref a308), .unset] [(own_of [] o0 o1 o2 o3 o4 o5)])) (fun _ kk => st340 _ kk) ?_
    refine own_step (T' := T340) (g' := (mkF m 131 #[.val (.int p0), .val (.int p1), .val (.int p2), .val (.int p3), .val (.int (0 : Int32)), .val (.int c0), .val (.int c1), .val (.int c2), .val (.ref a171), .val (.ref a181), .val (.ref a205), .val (.ref a246), .val (.ref a171), .val (.ref a308), .val (own_of [] o0 o1 o2 o3 o4 o5)] [])) (fun _ kk => XS.astore X340.here hx rfl (hb hby at_129) rfl own_of_ref (l' := #[.val (.int p0), .val (.int p1), .val (.int p2), .val (.int p3), .val (.int (0 : Int32)), .val (.int c0), .val (.int c1), .val (.int c2), .val (.ref a171), .val (.ref a181), .val (.ref a205), .val (.ref a246), .val (.ref a171), .val (.ref a308), .val (own_of [] o0 o1 o2 o3 o4 o5)]) (XS.store1 (o := .unset) rfl (Or.inl rfl) (own_cref own_of_ref)) kk) ?_
    refine own_step (T' := T340) (g' := (mkF m 133 #[.val (.int p0), .val (.int p1), .val (.int p2), .val (.int p3), .val (.int (0 : Int32)), .val (.int c0), .val (.int c1), .val (.int c2), .val (.ref a171), .val (.ref a181), .val (.ref a205), .val (.ref a246), .val (.ref a171), .val (.ref a308), .val (own_of [] o0 o1 o2 o3 o4 o5)] [(own_of [] o0 o1 o2 o3 o4 o5)])) (fun _ kk => XS.aload X340.here hx rfl (hb hby at_131) rfl own_of_ref kk) ?_
    refine own_step (T' := T340) (g' := (mkF m 135 #[.val (.int p0), .val (.int p1), .val (.int p2), .val (.int p3), .val (.int (0 : Int32)), .val (.int c0), .val (.int c1), .val (.int c2), .val (.ref a171), .val (.ref a181), .val (.ref a205), .val (.ref a246), .val (.ref a171), .val (.ref a308), .val (own_of [] o0 o1 o2 o3 o4 o5)] [(.int (0 : Int32)), (own_of [] o0 o1 o2 o3 o4 o5)])) (fun _ kk => XS.iload X340.here hx rfl (hb hby at_133) rfl kk) ?_
    refine own_step (T' := T340) (g' := (mkF m 137 #[.val (.int p0), .val (.int p1), .val (.int p2), .val (.int p3), .val (.int (0 : Int32)), .val (.int c0), .val (.int c1), .val (.int c2), .val (.ref a171), .val (.ref a181), .val (.ref a205), .val (.ref a246), .val (.ref a171), .val (.ref a308), .val (own_of [] o0 o1 o2 o3 o4 o5)] [(.int c0), (.int (0 : Int32)), (own_of [] o0 o1 o2 o3 o4 o5)])) (fun _ kk => XS.iload X340.here hx rfl (hb hby at_135) rfl kk) ?_
    refine own_step (T' := T340) (g' := (mkF m 139 #[.val (.int p0), .val (.int p1), .val (.int p2), .val (.int p3), .val (.int (0 : Int32)), .val (.int c0), .val (.int c1), .val (.int c2), .val (.ref a171), .val (.ref a181), .val (.ref a205), .val (.ref a246), .val (.ref a171), .val (.ref a308), .val (own_of [] o0 o1 o2 o3 o4 o5)] [(.int c1), (.int c0), (.int (0 : Int32)), (own_of [] o0 o1 o2 o3 o4 o5)])) (fun _ kk => XS.iload X340.here hx rfl (hb hby at_137) rfl kk) ?_
    obtain ⟨T346, L346, _, h346, X346, e346, ⟨rfl, Nq345, eh345⟩, st346⟩ := own_callS X340 hx hZ330 ho330 (w64 hw) (w65 hw) (w66 hw) (w2 hw) (by decide) (g := (mkF m 139 #[.val (.int p0), .val (.int p1), .val (.int p2), .val (.int p3), .val (.int (0 : Int32)), .val (.int c0), .val (.int c1), .val (.int c2), .val (.ref a171), .val (.ref a181), .val (.ref a205), .val (.ref a246), .val (.ref a171), .val (.ref a308), .val (own_of [] o0 o1 o2 o3 o4 o5)] [(.int c1), (.int c0), (.int (0 : Int32)), (own_of [] o0 o1 o2 o3 o4 o5)])) rfl (by rw [hml]; rfl) (argsL := [(.int (0 : Int32)), (.int c0), (.int c1)]) (rest := [(own_of [] o0 o1 o2 o3 o4 o5)]) (rm_ex l Z a0 hw (0 : Int32) c0 c1 o0 o1 o2 o3 o4 o5 _ F343 S0 S1 S2 S3 S4 S5) e340 pd__ICC_Lcom_example_lakeledger_lakeledger_Filter_Operator_ rfl rfl (W := 1) (by show 2 * 0 + _ ≤ _; first | exact Nat.le_of_eq rfl | simp [own_cref own_of_ref]) (hb hby at_139) (by decide) (by decide) (by decide) (by decide)
    have F347 := Fr.app F341 Nq345
    have F348 := e346.trans eh345
    refine own_step (T' := T346) (g' := (mkF m 142 #[.val (.int p0), .val (.int p1), .val (.int p2), .val (.int p3), .val (.int (0 : Int32)), .val (.int c0), .val (.int c1), .val (.int c2), .val (.ref a171), .val (.ref a181), .val (.ref a205), .val (.ref a246), .val (.ref a171), .val (.ref a308), .val (own_of [] o0 o1 o2 o3 o4 o5)] [(own_ex (0 : Int32) c0 c1 o0 o1 o2 o3 o4 o5), (own_of [] o0 o1 o2 o3 o4 o5)])) (fun _ kk => st346 _ kk) ?_
    refine own_step (T' := T346) (g' := (mkF m 145 #[.val (.int p0), .val (.int p1), .val (.int p2), .val (.int p3), .val (.int (0 : Int32)), .val (.int c0), .val (.int c1), .val (.int c2), .val (.ref a171), .val (.ref a181), .val (.ref a205), .val (.ref a246), .val (.ref a171), .val (.ref a308), .val (own_of [] o0 o1 o2 o3 o4 o5)] [])) (fun _ kk => acmp X346 hx rfl own_of_ref own_ex_ref (pc0 := 142) (pc' := 145) rfl (hb hby at_142) rfl (same := true) (by rw [own_agree0 (c0 := c0) (c1 := c1)]; simp) (by decide) rfl kk) ?_
    refine own_step (T' := T346) (g' := (mkF m 146 #[.val (.int p0), .val (.int p1), .val (.int p2), .val (.int p3), .val (.int (0 : Int32)), .val (.int c0), .val (.int c1), .val (.int c2), .val (.ref a171), .val (.ref a181), .val (.ref a205), .val (.ref a246), .val (.ref a171), .val (.ref a308), .val (own_of [] o0 o1 o2 o3 o4 o5)] [(.int (1 : Int32))])) (fun _ kk => XS.iconst X346.here hx rfl (hb hby at_145) kk) ?_
    refine own_step (T' := T346) (g' := (mkF m 150 #[.val (.int p0), .val (.int p1), .val (.int p2), .val (.int p3), .val (.int (0 : Int32)), .val (.int c0), .val (.int c1), .val (.int c2), .val (.ref a171), .val (.ref a181), .val (.ref a205), .val (.ref a246), .val (.ref a171), .val (.ref a308), .val (own_of [] o0 o1 o2 o3 o4 o5)] [(.int (1 : Int32))])) (fun _ kk => XS.goto X346.here hx rfl (pc0 := 146) (pc' := 150) rfl (hb hby at_146) (by decide) (by decide) kk) ?_
    exact own_retNW X346 hx hS330 F342 hlk (t := .boolean) hret (by simp) (hb hby at_150) F348 ⟨rfl, F347⟩ (by decide) (by decide)
  · rw [hn]
    refine own_step (T' := T294) (g' := (mkF m 83 #[.val (.int p0), .val (.int p1), .val (.int p2), .val (.int p3), .val (.int (1 : Int32)), .val (.int c0), .val (.int c1), .val (.int c2), .val (.ref a171), .val (.ref a181), .val (.ref a205), .val (.ref a246), .val (.ref a171), .unset, .unset] [])) (fun _ kk => XS.icmpNo X294.here hx rfl (hb hby at_80) rfl (teq rfl).2 kk) ?_
    refine own_step (T' := T294) (g' := (mkF m 85 #[.val (.int p0), .val (.int p1), .val (.int p2), .val (.int p3), .val (.int (1 : Int32)), .val (.int c0), .val (.int c1), .val (.int c2), .val (.ref a171), .val (.ref a181), .val (.ref a205), .val (.ref a246), .val (.ref a171), .unset, .unset] [(.ref a181)])) (fun _ kk => XS.aload X294.here hx rfl (hb hby at_83) rfl rfl kk) ?_
    refine own_step (T' := T294) (g' := (mkF m 87 #[.val (.int p0), .val (.int p1), .val (.int p2), .val (.int p3), .val (.int (1 : Int32)), .val (.int c0), .val (.int c1), .val (.int c2), .val (.ref a171), .val (.ref a181), .val (.ref a205), .val (.ref a246), .val (.ref a181), .unset, .unset] [])) (fun _ kk => XS.astore X294.here hx rfl (hb hby at_85) rfl rfl (l' := #[.val (.int p0), .val (.int p1), .val (.int p2), .val (.int p3), .val (.int (1 : Int32)), .val (.int c0), .val (.int c1), .val (.int c2), .val (.ref a171), .val (.ref a181), .val (.ref a205), .val (.ref a246), .val (.ref a181), .unset, .unset]) rfl kk) ?_
    refine own_step (T' := T294) (g' := (mkF m 113 #[.val (.int p0), .val (.int p1), .val (.int p2), .val (.int p3), .val (.int (1 : Int32)), .val (.int c0), .val (.int c1), .val (.int c2), .val (.ref a171), .val (.ref a181), .val (.ref a205), .val (.ref a246), .val (.ref a181), .unset, .unset] [])) (fun _ kk => XS.goto X294.here hx rfl (pc0 := 87) (pc' := 113) rfl (hb hby at_87) (by decide) (by decide) kk) ?_
    obtain ⟨T350, h350, X350, e350, E350, A350, D350, U350, st350⟩ := newO X294 hx hZ hown (w5 hw) (w6 hw) (w7 hw) e294 (g := (mkF m 113 #[.val (.int p0), .val (.int p1), .val (.int p2), .val (.int p3), .val (.int (1 : Int32)), .val (.int c0), .val (.int c1), .val (.int c2), .val (.ref a171), .val (.ref a181), .val (.ref a205), .val (.ref a246), .val (.ref a181), .unset, .unset] [])) rfl (hb hby at_113) (by decide) (by decide)
    obtain ⟨a349, g350⟩ : ∃ z, z = h294.size := ⟨_, rfl⟩
    rw [← g350] at A350 D350 U350 st350
    have ne351 : a171 ≠ a349 := Nat.ne_of_lt (by rw [g350]; exact F297.lt)
    have ne352 : a181 ≠ a349 := Nat.ne_of_lt (by rw [g350]; exact F299.lt)
    have ne353 : a205 ≠ a349 := Nat.ne_of_lt (by rw [g350]; exact F301.lt)
    have ne354 : a246 ≠ a349 := Nat.ne_of_lt (by rw [g350]; exact F307.lt)
    have ge355 : Z.heap.size ≤ a349 := by rw [g350]; exact F305.2.1
    have ng356 : h0.size ≤ a349 := by rw [g350]; exact F306.1
    have F357 := Safe.ext E350 F303 F296
    have F358 := F297.ext E350
    have F359 := Safe.ext E350 F303 F298
    have F360 := F299.ext E350
    have F361 := Safe.ext E350 F303 F300
    have F362 := F301.ext E350
    have F363 := Safe.ext E350 F303 F302
    have F364 := F307.ext E350
    have F365 := CHv.ext E350 F303
    have F366 := Nat.le_trans F304 E350.1
    have F367 := F305.ext E350
    have F368 := F306.ext E350
    have F369 := Safe.ext E350 F303 (Safe.new (Nat.le_of_eq g350.symm))
    have F370 : own_Obj Z h350 a349 "java/lang/String" := own_Obj.new A350 U350
    refine own_step (T' := T350) (g' := (mkF m 116 #[.val (.int p0), .val (.int p1), .val (.int p2), .val (.int p3), .val (.int (1 : Int32)), .val (.int c0), .val (.int c1), .val (.int c2), .val (.ref a171), .val (.ref a181), .val (.ref a205), .val (.ref a246), .val (.ref a181), .unset, .unset] [(.ref a349)])) (fun _ kk => st350 _ kk) ?_
    refine own_step (T' := T350) (g' := (mkF m 117 #[.val (.int p0), .val (.int p1), .val (.int p2), .val (.int p3), .val (.int (1 : Int32)), .val (.int c0), .val (.int c1), .val (.int c2), .val (.ref a171), .val (.ref a181), .val (.ref a205), .val (.ref a246), .val (.ref a181), .unset, .unset] [(.ref a349), (.ref a349)])) (fun _ kk => XS.dup X350.here hx rfl (hb hby at_116) rfl rfl kk) ?_
    refine own_step (T' := T350) (g' := (mkF m 119 #[.val (.int p0), .val (.int p1), .val (.int p2), .val (.int p3), .val (.int (1 : Int32)), .val (.int c0), .val (.int c1), .val (.int c2), .val (.ref a171), .val (.ref a181), .val (.ref a205), .val (.ref a246), .val (.ref a181), .unset, .unset] [(.ref a181), (.ref a349), (.ref a349)])) (fun _ kk => XS.aload X350.here hx rfl (hb hby at_117) rfl rfl kk) ?_
    obtain ⟨u371, Fu371⟩ := F370.fld (w6 hw) (Or.inr (w20 hw) : Laid Z a0 "java/lang/String" "java/lang/String" "value" "[B")
    obtain ⟨y371, Fy371⟩ := F370.fld (w6 hw) (Or.inr (w21 hw) : Laid Z a0 "java/lang/String" "java/lang/String" "coder" "B")
    obtain ⟨T371, L371, _, h371, X371, e371, ⟨rfl, Nq371, Kq371, Eq371, Cq371, sb371, kb371, ga371, gb371, nb371, Vq371, Aq371⟩, st371⟩ := own_bcallC X350 hx hZ hown rfl (w8 hw) (w9 hw) (w10 hw) (by decide) (a := a349) (g := (mkF m 119 #[.val (.int p0), .val (.int p1), .val (.int p2), .val (.int p3), .val (.int (1 : Int32)), .val (.int c0), .val (.int c1), .val (.int c2), .val (.ref a171), .val (.ref a181), .val (.ref a205), .val (.ref a246), .val (.ref a181), .unset, .unset] [(.ref a181), (.ref a349), (.ref a349)])) rfl (by rw [hml]; rfl) (argsL := [.ref a181]) (rest := [(.ref a349)]) (StrChars.Road.backV (W := 1) hZ (own_hws hw) (kI := 4) (w6 hw) (cs := [c0]) (n := 1) (n0 := Z.heap.size) ge355 (Nat.le_trans F367.2.1 (Nat.le_refl _)) F370.1 Fu371 Fy371 F360 (SC.ext F367.2) hzc rfl rfl (by decide) (by decide) (hB.take 1) rfl (by decide) (by decide)) e350 pd___C_V rfl rfl (by show 2 * 0 + _ ≤ _; exact Nat.le_of_eq rfl) (hb hby at_119) (by decide) (by decide)
    have F372 := Fr.app F295 Nq371
    have F373 := Safe.keep Kq371 (allS F369 all0) F365 F357
    have F374 := F358.keep Kq371 (ninS ne351 nin0)
    have F375 := Safe.keep Kq371 (allS F369 all0) F365 F359
    have F376 := F360.keep Kq371 (ninS ne352 nin0)
    have F377 := Safe.keep Kq371 (allS F369 all0) F365 F361
    have F378 := F362.keep Kq371 (ninS ne353 nin0)
    have F379 := Safe.keep Kq371 (allS F369 all0) F365 F363
    have F380 := F364.keep Kq371 (ninS ne354 nin0)
    have F381 := Safe.keep Kq371 (allS F369 all0) F365 F369
    have F382 := F370.keep Kq371
    have F383 := CHv.keep Kq371 (allS F369 all0) F365
    have F384 := Nat.le_trans F366 Kq371.1
    have F385 := F367.keep Kq371 (allS ge355 all0)
    have F386 := F368.trans Kq371 (allS (Or.inr ng356) all0)
    refine own_step (T' := T371) (g' := (mkF m 122 #[.val (.int p0), .val (.int p1), .val (.int p2), .val (.int p3), .val (.int (1 : Int32)), .val (.int c0), .val (.int c1), .val (.int c2), .val (.ref a171), .val (.ref a181), .val (.ref a205), .val (.ref a246), .val (.ref a181), .unset, .unset] [(.ref a349)])) (fun _ kk => st371 _ kk) ?_
    have F387 : own_Str Z h371 a349 [c0] := ⟨_, _, F382.1, Cq371, Vq371, Aq371⟩
    refine own_step (T' := T371) (g' := (mkF m 124 #[.val (.int p0), .val (.int p1), .val (.int p2), .val (.int p3), .val (.int (1 : Int32)), .val (.int c0), .val (.int c1), .val (.int c2), .val (.ref a171), .val (.ref a181), .val (.ref a205), .val (.ref a246), .val (.ref a181), .val (.ref a349), .unset] [])) (fun _ kk => XS.astore X371.here hx rfl (hb hby at_122) rfl rfl (l' := #[.val (.int p0), .val (.int p1), .val (.int p2), .val (.int p3), .val (.int (1 : Int32)), .val (.int c0), .val (.int c1), .val (.int c2), .val (.ref a171), .val (.ref a181), .val (.ref a205), .val (.ref a246), .val (.ref a181), .val (.ref a349), .unset]) rfl kk) ?_
    refine own_step (T' := T371) (g' := (mkF m 126 #[.val (.int p0), .val (.int p1), .val (.int p2), .val (.int p3), .val (.int (1 : Int32)), .val (.int c0), .val (.int c1), .val (.int c2), .val (.ref a171), .val (.ref a181), .val (.ref a205), .val (.ref a246), .val (.ref a181), .val (.ref a349), .unset] [(.ref a349)])) (fun _ kk => XS.aload X371.here hx rfl (hb hby at_124) rfl rfl kk) ?_
    obtain ⟨T388, L388, _, h388, X388, e388, ⟨rfl, No, Ko⟩, st388⟩ := own_callS X371 hx hZ hown (w26 hw) (w27 hw) (w29 hw) (w28 hw) (by decide) (g := (mkF m 126 #[.val (.int p0), .val (.int p1), .val (.int p2), .val (.int p3), .val (.int (1 : Int32)), .val (.int c0), .val (.int c1), .val (.int c2), .val (.ref a171), .val (.ref a181), .val (.ref a205), .val (.ref a246), .val (.ref a181), .val (.ref a349), .unset] [(.ref a349)])) rfl (by rw [hml]; rfl) (argsL := [(.ref a349)]) (rest := []) (rm_of l Z a0 hw a349 va kv o0 o1 o2 o3 o4 o5 y0 y1 y2 y3 y4 y5 [c0] zc _ F385 F387 (hB.take 1) (by show 1 ≤ 4000; decide) SV AV EV G0 G1 G2 G3 G4 G5 Y0 Y1 Y2 Y3 Y4 Y5 SC hzc) e371 pd__Ljava_lang_String__Lcom_example_lakeledger_lakeledger_Filter_Operator_ rfl rfl (W := 0) (by show 2 * 0 + _ ≤ _; first | exact Nat.le_of_eq rfl | simp [own_cref own_of_ref]) (hb hby at_126) (by decide) (by decide) (by decide) (by decide)
    have F389 := Fr.app F372 No
    have F390 := CHv.keep Ko all0 F383
    have F391 := Nat.le_trans F384 Ko.1
    have F392 := F385.keep Ko all0
    have F393 := F386.trans Ko all0
    refine own_step (T' := T388) (g' := (mkF m 129 #[.val (.int p0), .val (.int p1), .val (.int p2), .val (.int p3), .val (.int (1 : Int32)), .val (.int c0), .val (.int c1), .val (.int c2), .val (.ref a171), .val (.ref a181), .val (.ref a205), .val (.ref a246), .val (.ref a181), .val (.ref a349), .unset] [(own_of [c0] o0 o1 o2 o3 o4 o5)])) (fun _ kk => st388 _ kk) ?_
    refine own_step (T' := T388) (g' := (mkF m 131 #[.val (.int p0), .val (.int p1), .val (.int p2), .val (.int p3), .val (.int (1 : Int32)), .val (.int c0), .val (.int c1), .val (.int c2), .val (.ref a171), .val (.ref a181), .val (.ref a205), .val (.ref a246), .val (.ref a181), .val (.ref a349), .val (own_of [c0] o0 o1 o2 o3 o4 o5)] [])) (fun _ kk => XS.astore X388.here hx rfl (hb hby at_129) rfl own_of_ref (l' := #[.val (.int p0), .val (.int p1), .val (.int p2), .val (.int p3), .val (.int (1 : Int32)), .val (.int c0), .val (.int c1), .val (.int c2), .val (.ref a171), .val (.ref a181), .val (.ref a205), .val (.ref a246), .val (.ref a181), .val (.ref a349), .val (own_of [c0] o0 o1 o2 o3 o4 o5)]) (XS.store1 (o := .unset) rfl (Or.inl rfl) (own_cref own_of_ref)) kk) ?_
    refine own_step (T' := T388) (g' := (mkF m 133 #[.val (.int p0), .val (.int p1), .val (.int p2), .val (.int p3), .val (.int (1 : Int32)), .val (.int c0), .val (.int c1), .val (.int c2), .val (.ref a171), .val (.ref a181), .val (.ref a205), .val (.ref a246), .val (.ref a181), .val (.ref a349), .val (own_of [c0] o0 o1 o2 o3 o4 o5)] [(own_of [c0] o0 o1 o2 o3 o4 o5)])) (fun _ kk => XS.aload X388.here hx rfl (hb hby at_131) rfl own_of_ref kk) ?_
    refine own_step (T' := T388) (g' := (mkF m 135 #[.val (.int p0), .val (.int p1), .val (.int p2), .val (.int p3), .val (.int (1 : Int32)), .val (.int c0), .val (.int c1), .val (.int c2), .val (.ref a171), .val (.ref a181), .val (.ref a205), .val (.ref a246), .val (.ref a181), .val (.ref a349), .val (own_of [c0] o0 o1 o2 o3 o4 o5)] [(.int (1 : Int32)), (own_of [c0] o0 o1 o2 o3 o4 o5)])) (fun _ kk => XS.iload X388.here hx rfl (hb hby at_133) rfl kk) ?_
    refine own_step (T' := T388) (g' := (mkF m 137 #[.val (.int p0), .val (.int p1), .val (.int p2), .val (.int p3), .val (.int (1 : Int32)), .val (.int c0), .val (.int c1), .val (.int c2), .val (.ref a171), .val (.ref a181), .val (.ref a205), .val (.ref a246), .val (.ref a181), .val (.ref a349), .val (own_of [c0] o0 o1 o2 o3 o4 o5)] [(.int c0), (.int (1 : Int32)), (own_of [c0] o0 o1 o2 o3 o4 o5)])) (fun _ kk => XS.iload X388.here hx rfl (hb hby at_135) rfl kk) ?_
    refine own_step (T' := T388) (g' := (mkF m 139 #[.val (.int p0), .val (.int p1), .val (.int p2), .val (.int p3), .val (.int (1 : Int32)), .val (.int c0), .val (.int c1), .val (.int c2), .val (.ref a171), .val (.ref a181), .val (.ref a205), .val (.ref a246), .val (.ref a181), .val (.ref a349), .val (own_of [c0] o0 o1 o2 o3 o4 o5)] [(.int c1), (.int c0), (.int (1 : Int32)), (own_of [c0] o0 o1 o2 o3 o4 o5)])) (fun _ kk => XS.iload X388.here hx rfl (hb hby at_137) rfl kk) ?_
    obtain ⟨T395, L395, _, h395, X395, e395, ⟨rfl, Nq394, eh394⟩, st395⟩ := own_callS X388 hx hZ hown (w64 hw) (w65 hw) (w66 hw) (w2 hw) (by decide) (g := (mkF m 139 #[.val (.int p0), .val (.int p1), .val (.int p2), .val (.int p3), .val (.int (1 : Int32)), .val (.int c0), .val (.int c1), .val (.int c2), .val (.ref a171), .val (.ref a181), .val (.ref a205), .val (.ref a246), .val (.ref a181), .val (.ref a349), .val (own_of [c0] o0 o1 o2 o3 o4 o5)] [(.int c1), (.int c0), (.int (1 : Int32)), (own_of [c0] o0 o1 o2 o3 o4 o5)])) rfl (by rw [hml]; rfl) (argsL := [(.int (1 : Int32)), (.int c0), (.int c1)]) (rest := [(own_of [c0] o0 o1 o2 o3 o4 o5)]) (rm_ex l Z a0 hw (1 : Int32) c0 c1 o0 o1 o2 o3 o4 o5 _ F392 S0 S1 S2 S3 S4 S5) e388 pd__ICC_Lcom_example_lakeledger_lakeledger_Filter_Operator_ rfl rfl (W := 1) (by show 2 * 0 + _ ≤ _; first | exact Nat.le_of_eq rfl | simp [own_cref own_of_ref]) (hb hby at_139) (by decide) (by decide) (by decide) (by decide)
    have F396 := Fr.app F389 Nq394
    have F397 := e395.trans eh394
    refine own_step (T' := T395) (g' := (mkF m 142 #[.val (.int p0), .val (.int p1), .val (.int p2), .val (.int p3), .val (.int (1 : Int32)), .val (.int c0), .val (.int c1), .val (.int c2), .val (.ref a171), .val (.ref a181), .val (.ref a205), .val (.ref a246), .val (.ref a181), .val (.ref a349), .val (own_of [c0] o0 o1 o2 o3 o4 o5)] [(own_ex (1 : Int32) c0 c1 o0 o1 o2 o3 o4 o5), (own_of [c0] o0 o1 o2 o3 o4 o5)])) (fun _ kk => st395 _ kk) ?_
    refine own_step (T' := T395) (g' := (mkF m 145 #[.val (.int p0), .val (.int p1), .val (.int p2), .val (.int p3), .val (.int (1 : Int32)), .val (.int c0), .val (.int c1), .val (.int c2), .val (.ref a171), .val (.ref a181), .val (.ref a205), .val (.ref a246), .val (.ref a181), .val (.ref a349), .val (own_of [c0] o0 o1 o2 o3 o4 o5)] [])) (fun _ kk => acmp X395 hx rfl own_of_ref own_ex_ref (pc0 := 142) (pc' := 145) rfl (hb hby at_142) rfl (same := true) (by rw [own_agree1 (c0 := c0) (c1 := c1)]; simp) (by decide) rfl kk) ?_
    refine own_step (T' := T395) (g' := (mkF m 146 #[.val (.int p0), .val (.int p1), .val (.int p2), .val (.int p3), .val (.int (1 : Int32)), .val (.int c0), .val (.int c1), .val (.int c2), .val (.ref a171), .val (.ref a181), .val (.ref a205), .val (.ref a246), .val (.ref a181), .val (.ref a349), .val (own_of [c0] o0 o1 o2 o3 o4 o5)] [(.int (1 : Int32))])) (fun _ kk => XS.iconst X395.here hx rfl (hb hby at_145) kk) ?_
    refine own_step (T' := T395) (g' := (mkF m 150 #[.val (.int p0), .val (.int p1), .val (.int p2), .val (.int p3), .val (.int (1 : Int32)), .val (.int c0), .val (.int c1), .val (.int c2), .val (.ref a171), .val (.ref a181), .val (.ref a205), .val (.ref a246), .val (.ref a181), .val (.ref a349), .val (own_of [c0] o0 o1 o2 o3 o4 o5)] [(.int (1 : Int32))])) (fun _ kk => XS.goto X395.here hx rfl (pc0 := 146) (pc' := 150) rfl (hb hby at_146) (by decide) (by decide) kk) ?_
    exact own_retNW X395 hx hS0 F391 hlk (t := .boolean) hret (by simp) (hb hby at_150) F397 ⟨rfl, F396⟩ (by decide) (by decide)
  · rw [hn]
    refine own_step (T' := T294) (g' := (mkF m 90 #[.val (.int p0), .val (.int p1), .val (.int p2), .val (.int p3), .val (.int (2 : Int32)), .val (.int c0), .val (.int c1), .val (.int c2), .val (.ref a171), .val (.ref a181), .val (.ref a205), .val (.ref a246), .val (.ref a171), .unset, .unset] [])) (fun _ kk => XS.icmpYes X294.here hx rfl (pc0 := 80) (pc' := 90) rfl (hb hby at_80) rfl (feq (by decide)).2 (by decide) (by decide) kk) ?_
    refine own_step (T' := T294) (g' := (mkF m 92 #[.val (.int p0), .val (.int p1), .val (.int p2), .val (.int p3), .val (.int (2 : Int32)), .val (.int c0), .val (.int c1), .val (.int c2), .val (.ref a171), .val (.ref a181), .val (.ref a205), .val (.ref a246), .val (.ref a171), .unset, .unset] [(.int (2 : Int32))])) (fun _ kk => XS.iload X294.here hx rfl (hb hby at_90) rfl kk) ?_
    refine own_step (T' := T294) (g' := (mkF m 93 #[.val (.int p0), .val (.int p1), .val (.int p2), .val (.int p3), .val (.int (2 : Int32)), .val (.int c0), .val (.int c1), .val (.int c2), .val (.ref a171), .val (.ref a181), .val (.ref a205), .val (.ref a246), .val (.ref a171), .unset, .unset] [(.int (2 : Int32)), (.int (2 : Int32))])) (fun _ kk => XS.iconst X294.here hx rfl (hb hby at_92) kk) ?_
    refine own_step (T' := T294) (g' := (mkF m 96 #[.val (.int p0), .val (.int p1), .val (.int p2), .val (.int p3), .val (.int (2 : Int32)), .val (.int c0), .val (.int c1), .val (.int c2), .val (.ref a171), .val (.ref a181), .val (.ref a205), .val (.ref a246), .val (.ref a171), .unset, .unset] [])) (fun _ kk => XS.icmpNo X294.here hx rfl (hb hby at_93) rfl (teq rfl).2 kk) ?_
    refine own_step (T' := T294) (g' := (mkF m 98 #[.val (.int p0), .val (.int p1), .val (.int p2), .val (.int p3), .val (.int (2 : Int32)), .val (.int c0), .val (.int c1), .val (.int c2), .val (.ref a171), .val (.ref a181), .val (.ref a205), .val (.ref a246), .val (.ref a171), .unset, .unset] [(.ref a205)])) (fun _ kk => XS.aload X294.here hx rfl (hb hby at_96) rfl rfl kk) ?_
    refine own_step (T' := T294) (g' := (mkF m 100 #[.val (.int p0), .val (.int p1), .val (.int p2), .val (.int p3), .val (.int (2 : Int32)), .val (.int c0), .val (.int c1), .val (.int c2), .val (.ref a171), .val (.ref a181), .val (.ref a205), .val (.ref a246), .val (.ref a205), .unset, .unset] [])) (fun _ kk => XS.astore X294.here hx rfl (hb hby at_98) rfl rfl (l' := #[.val (.int p0), .val (.int p1), .val (.int p2), .val (.int p3), .val (.int (2 : Int32)), .val (.int c0), .val (.int c1), .val (.int c2), .val (.ref a171), .val (.ref a181), .val (.ref a205), .val (.ref a246), .val (.ref a205), .unset, .unset]) rfl kk) ?_
    refine own_step (T' := T294) (g' := (mkF m 113 #[.val (.int p0), .val (.int p1), .val (.int p2), .val (.int p3), .val (.int (2 : Int32)), .val (.int c0), .val (.int c1), .val (.int c2), .val (.ref a171), .val (.ref a181), .val (.ref a205), .val (.ref a246), .val (.ref a205), .unset, .unset] [])) (fun _ kk => XS.goto X294.here hx rfl (pc0 := 100) (pc' := 113) rfl (hb hby at_100) (by decide) (by decide) kk) ?_
    obtain ⟨T399, h399, X399, e399, E399, A399, D399, U399, st399⟩ := newO X294 hx hZ hown (w5 hw) (w6 hw) (w7 hw) e294 (g := (mkF m 113 #[.val (.int p0), .val (.int p1), .val (.int p2), .val (.int p3), .val (.int (2 : Int32)), .val (.int c0), .val (.int c1), .val (.int c2), .val (.ref a171), .val (.ref a181), .val (.ref a205), .val (.ref a246), .val (.ref a205), .unset, .unset] [])) rfl (hb hby at_113) (by decide) (by decide)
    obtain ⟨a398, g399⟩ : ∃ z, z = h294.size := ⟨_, rfl⟩
    rw [← g399] at A399 D399 U399 st399
    have ne400 : a171 ≠ a398 := Nat.ne_of_lt (by rw [g399]; exact F297.lt)
    have ne401 : a181 ≠ a398 := Nat.ne_of_lt (by rw [g399]; exact F299.lt)
    have ne402 : a205 ≠ a398 := Nat.ne_of_lt (by rw [g399]; exact F301.lt)
    have ne403 : a246 ≠ a398 := Nat.ne_of_lt (by rw [g399]; exact F307.lt)
    have ge404 : Z.heap.size ≤ a398 := by rw [g399]; exact F305.2.1
    have ng405 : h0.size ≤ a398 := by rw [g399]; exact F306.1
    have F406 := Safe.ext E399 F303 F296
    have F407 := F297.ext E399
    have F408 := Safe.ext E399 F303 F298
    have F409 := F299.ext E399
    have F410 := Safe.ext E399 F303 F300
    have F411 := F301.ext E399
    have F412 := Safe.ext E399 F303 F302
    have F413 := F307.ext E399
    have F414 := CHv.ext E399 F303
    have F415 := Nat.le_trans F304 E399.1
    have F416 := F305.ext E399
    have F417 := F306.ext E399
    have F418 := Safe.ext E399 F303 (Safe.new (Nat.le_of_eq g399.symm))
    have F419 : own_Obj Z h399 a398 "java/lang/String" := own_Obj.new A399 U399
    refine own_step (T' := T399) (g' := (mkF m 116 #[.val (.int p0), .val (.int p1), .val (.int p2), .val (.int p3), .val (.int (2 : Int32)), .val (.int c0), .val (.int c1), .val (.int c2), .val (.ref a171), .val (.ref a181), .val (.ref a205), .val (.ref a246), .val (.ref a205), .unset, .unset] [(.ref a398)])) (fun _ kk => st399 _ kk) ?_
    refine own_step (T' := T399) (g' := (mkF m 117 #[.val (.int p0), .val (.int p1), .val (.int p2), .val (.int p3), .val (.int (2 : Int32)), .val (.int c0), .val (.int c1), .val (.int c2), .val (.ref a171), .val (.ref a181), .val (.ref a205), .val (.ref a246), .val (.ref a205), .unset, .unset] [(.ref a398), (.ref a398)])) (fun _ kk => XS.dup X399.here hx rfl (hb hby at_116) rfl rfl kk) ?_
    refine own_step (T' := T399) (g' := (mkF m 119 #[.val (.int p0), .val (.int p1), .val (.int p2), .val (.int p3), .val (.int (2 : Int32)), .val (.int c0), .val (.int c1), .val (.int c2), .val (.ref a171), .val (.ref a181), .val (.ref a205), .val (.ref a246), .val (.ref a205), .unset, .unset] [(.ref a205), (.ref a398), (.ref a398)])) (fun _ kk => XS.aload X399.here hx rfl (hb hby at_117) rfl rfl kk) ?_
    obtain ⟨u420, Fu420⟩ := F419.fld (w6 hw) (Or.inr (w20 hw) : Laid Z a0 "java/lang/String" "java/lang/String" "value" "[B")
    obtain ⟨y420, Fy420⟩ := F419.fld (w6 hw) (Or.inr (w21 hw) : Laid Z a0 "java/lang/String" "java/lang/String" "coder" "B")
    obtain ⟨T420, L420, _, h420, X420, e420, ⟨rfl, Nq420, Kq420, Eq420, Cq420, sb420, kb420, ga420, gb420, nb420, Vq420, Aq420⟩, st420⟩ := own_bcallC X399 hx hZ hown rfl (w8 hw) (w9 hw) (w10 hw) (by decide) (a := a398) (g := (mkF m 119 #[.val (.int p0), .val (.int p1), .val (.int p2), .val (.int p3), .val (.int (2 : Int32)), .val (.int c0), .val (.int c1), .val (.int c2), .val (.ref a171), .val (.ref a181), .val (.ref a205), .val (.ref a246), .val (.ref a205), .unset, .unset] [(.ref a205), (.ref a398), (.ref a398)])) rfl (by rw [hml]; rfl) (argsL := [.ref a205]) (rest := [(.ref a398)]) (StrChars.Road.backV (W := 1) hZ (own_hws hw) (kI := 4) (w6 hw) (cs := [c0, c1]) (n := 2) (n0 := Z.heap.size) ge404 (Nat.le_trans F416.2.1 (Nat.le_refl _)) F419.1 Fu420 Fy420 F411 (SC.ext F416.2) hzc rfl rfl (by decide) (by decide) (hB.take 2) rfl (by decide) (by decide)) e399 pd___C_V rfl rfl (by show 2 * 0 + _ ≤ _; exact Nat.le_of_eq rfl) (hb hby at_119) (by decide) (by decide)
    have F421 := Fr.app F295 Nq420
    have F422 := Safe.keep Kq420 (allS F418 all0) F414 F406
    have F423 := F407.keep Kq420 (ninS ne400 nin0)
    have F424 := Safe.keep Kq420 (allS F418 all0) F414 F408
    have F425 := F409.keep Kq420 (ninS ne401 nin0)
    have F426 := Safe.keep Kq420 (allS F418 all0) F414 F410
    have F427 := F411.keep Kq420 (ninS ne402 nin0)
    have F428 := Safe.keep Kq420 (allS F418 all0) F414 F412
    have F429 := F413.keep Kq420 (ninS ne403 nin0)
    have F430 := Safe.keep Kq420 (allS F418 all0) F414 F418
    have F431 := F419.keep Kq420
    have F432 := CHv.keep Kq420 (allS F418 all0) F414
    have F433 := Nat.le_trans F415 Kq420.1
    have F434 := F416.keep Kq420 (allS ge404 all0)
    have F435 := F417.trans Kq420 (allS (Or.inr ng405) all0)
    refine own_step (T' := T420) (g' := (mkF m 122 #[.val (.int p0), .val (.int p1), .val (.int p2), .val (.int p3), .val (.int (2 : Int32)), .val (.int c0), .val (.int c1), .val (.int c2), .val (.ref a171), .val (.ref a181), .val (.ref a205), .val (.ref a246), .val (.ref a205), .unset, .unset] [(.ref a398)])) (fun _ kk => st420 _ kk) ?_
    have F436 : own_Str Z h420 a398 [c0, c1] := ⟨_, _, F431.1, Cq420, Vq420, Aq420⟩
    refine own_step (T' := T420) (g' := (mkF m 124 #[.val (.int p0), .val (.int p1), .val (.int p2), .val (.int p3), .val (.int (2 : Int32)), .val (.int c0), .val (.int c1), .val (.int c2), .val (.ref a171), .val (.ref a181), .val (.ref a205), .val (.ref a246), .val (.ref a205), .val (.ref a398), .unset] [])) (fun _ kk => XS.astore X420.here hx rfl (hb hby at_122) rfl rfl (l' := #[.val (.int p0), .val (.int p1), .val (.int p2), .val (.int p3), .val (.int (2 : Int32)), .val (.int c0), .val (.int c1), .val (.int c2), .val (.ref a171), .val (.ref a181), .val (.ref a205), .val (.ref a246), .val (.ref a205), .val (.ref a398), .unset]) rfl kk) ?_
    refine own_step (T' := T420) (g' := (mkF m 126 #[.val (.int p0), .val (.int p1), .val (.int p2), .val (.int p3), .val (.int (2 : Int32)), .val (.int c0), .val (.int c1), .val (.int c2), .val (.ref a171), .val (.ref a181), .val (.ref a205), .val (.ref a246), .val (.ref a205), .val (.ref a398), .unset] [(.ref a398)])) (fun _ kk => XS.aload X420.here hx rfl (hb hby at_124) rfl rfl kk) ?_
    obtain ⟨T437, L437, _, h437, X437, e437, ⟨rfl, No, Ko⟩, st437⟩ := own_callS X420 hx hZ hown (w26 hw) (w27 hw) (w29 hw) (w28 hw) (by decide) (g := (mkF m 126 #[.val (.int p0), .val (.int p1), .val (.int p2), .val (.int p3), .val (.int (2 : Int32)), .val (.int c0), .val (.int c1), .val (.int c2), .val (.ref a171), .val (.ref a181), .val (.ref a205), .val (.ref a246), .val (.ref a205), .val (.ref a398), .unset] [(.ref a398)])) rfl (by rw [hml]; rfl) (argsL := [(.ref a398)]) (rest := []) (rm_of l Z a0 hw a398 va kv o0 o1 o2 o3 o4 o5 y0 y1 y2 y3 y4 y5 [c0, c1] zc _ F434 F436 (hB.take 2) (by show 2 ≤ 4000; decide) SV AV EV G0 G1 G2 G3 G4 G5 Y0 Y1 Y2 Y3 Y4 Y5 SC hzc) e420 pd__Ljava_lang_String__Lcom_example_lakeledger_lakeledger_Filter_Operator_ rfl rfl (W := 0) (by show 2 * 0 + _ ≤ _; first | exact Nat.le_of_eq rfl | simp [own_cref own_of_ref]) (hb hby at_126) (by decide) (by decide) (by decide) (by decide)
    have F438 := Fr.app F421 No
    have F439 := CHv.keep Ko all0 F432
    have F440 := Nat.le_trans F433 Ko.1
    have F441 := F434.keep Ko all0
    have F442 := F435.trans Ko all0
    refine own_step (T' := T437) (g' := (mkF m 129 #[.val (.int p0), .val (.int p1), .val (.int p2), .val (.int p3), .val (.int (2 : Int32)), .val (.int c0), .val (.int c1), .val (.int c2), .val (.ref a171), .val (.ref a181), .val (.ref a205), .val (.ref a246), .val (.ref a205), .val (.ref a398), .unset] [(own_of [c0, c1] o0 o1 o2 o3 o4 o5)])) (fun _ kk => st437 _ kk) ?_
    refine own_step (T' := T437) (g' := (mkF m 131 #[.val (.int p0), .val (.int p1), .val (.int p2), .val (.int p3), .val (.int (2 : Int32)), .val (.int c0), .val (.int c1), .val (.int c2), .val (.ref a171), .val (.ref a181), .val (.ref a205), .val (.ref a246), .val (.ref a205), .val (.ref a398), .val (own_of [c0, c1] o0 o1 o2 o3 o4 o5)] [])) (fun _ kk => XS.astore X437.here hx rfl (hb hby at_129) rfl own_of_ref (l' := #[.val (.int p0), .val (.int p1), .val (.int p2), .val (.int p3), .val (.int (2 : Int32)), .val (.int c0), .val (.int c1), .val (.int c2), .val (.ref a171), .val (.ref a181), .val (.ref a205), .val (.ref a246), .val (.ref a205), .val (.ref a398), .val (own_of [c0, c1] o0 o1 o2 o3 o4 o5)]) (XS.store1 (o := .unset) rfl (Or.inl rfl) (own_cref own_of_ref)) kk) ?_
    refine own_step (T' := T437) (g' := (mkF m 133 #[.val (.int p0), .val (.int p1), .val (.int p2), .val (.int p3), .val (.int (2 : Int32)), .val (.int c0), .val (.int c1), .val (.int c2), .val (.ref a171), .val (.ref a181), .val (.ref a205), .val (.ref a246), .val (.ref a205), .val (.ref a398), .val (own_of [c0, c1] o0 o1 o2 o3 o4 o5)] [(own_of [c0, c1] o0 o1 o2 o3 o4 o5)])) (fun _ kk => XS.aload X437.here hx rfl (hb hby at_131) rfl own_of_ref kk) ?_
    refine own_step (T' := T437) (g' := (mkF m 135 #[.val (.int p0), .val (.int p1), .val (.int p2), .val (.int p3), .val (.int (2 : Int32)), .val (.int c0), .val (.int c1), .val (.int c2), .val (.ref a171), .val (.ref a181), .val (.ref a205), .val (.ref a246), .val (.ref a205), .val (.ref a398), .val (own_of [c0, c1] o0 o1 o2 o3 o4 o5)] [(.int (2 : Int32)), (own_of [c0, c1] o0 o1 o2 o3 o4 o5)])) (fun _ kk => XS.iload X437.here hx rfl (hb hby at_133) rfl kk) ?_
    refine own_step (T' := T437) (g' := (mkF m 137 #[.val (.int p0), .val (.int p1), .val (.int p2), .val (.int p3), .val (.int (2 : Int32)), .val (.int c0), .val (.int c1), .val (.int c2), .val (.ref a171), .val (.ref a181), .val (.ref a205), .val (.ref a246), .val (.ref a205), .val (.ref a398), .val (own_of [c0, c1] o0 o1 o2 o3 o4 o5)] [(.int c0), (.int (2 : Int32)), (own_of [c0, c1] o0 o1 o2 o3 o4 o5)])) (fun _ kk => XS.iload X437.here hx rfl (hb hby at_135) rfl kk) ?_
    refine own_step (T' := T437) (g' := (mkF m 139 #[.val (.int p0), .val (.int p1), .val (.int p2), .val (.int p3), .val (.int (2 : Int32)), .val (.int c0), .val (.int c1), .val (.int c2), .val (.ref a171), .val (.ref a181), .val (.ref a205), .val (.ref a246), .val (.ref a205), .val (.ref a398), .val (own_of [c0, c1] o0 o1 o2 o3 o4 o5)] [(.int c1), (.int c0), (.int (2 : Int32)), (own_of [c0, c1] o0 o1 o2 o3 o4 o5)])) (fun _ kk => XS.iload X437.here hx rfl (hb hby at_137) rfl kk) ?_
    obtain ⟨T444, L444, _, h444, X444, e444, ⟨rfl, Nq443, eh443⟩, st444⟩ := own_callS X437 hx hZ hown (w64 hw) (w65 hw) (w66 hw) (w2 hw) (by decide) (g := (mkF m 139 #[.val (.int p0), .val (.int p1), .val (.int p2), .val (.int p3), .val (.int (2 : Int32)), .val (.int c0), .val (.int c1), .val (.int c2), .val (.ref a171), .val (.ref a181), .val (.ref a205), .val (.ref a246), .val (.ref a205), .val (.ref a398), .val (own_of [c0, c1] o0 o1 o2 o3 o4 o5)] [(.int c1), (.int c0), (.int (2 : Int32)), (own_of [c0, c1] o0 o1 o2 o3 o4 o5)])) rfl (by rw [hml]; rfl) (argsL := [(.int (2 : Int32)), (.int c0), (.int c1)]) (rest := [(own_of [c0, c1] o0 o1 o2 o3 o4 o5)]) (rm_ex l Z a0 hw (2 : Int32) c0 c1 o0 o1 o2 o3 o4 o5 _ F441 S0 S1 S2 S3 S4 S5) e437 pd__ICC_Lcom_example_lakeledger_lakeledger_Filter_Operator_ rfl rfl (W := 1) (by show 2 * 0 + _ ≤ _; first | exact Nat.le_of_eq rfl | simp [own_cref own_of_ref]) (hb hby at_139) (by decide) (by decide) (by decide) (by decide)
    have F445 := Fr.app F438 Nq443
    have F446 := e444.trans eh443
    refine own_step (T' := T444) (g' := (mkF m 142 #[.val (.int p0), .val (.int p1), .val (.int p2), .val (.int p3), .val (.int (2 : Int32)), .val (.int c0), .val (.int c1), .val (.int c2), .val (.ref a171), .val (.ref a181), .val (.ref a205), .val (.ref a246), .val (.ref a205), .val (.ref a398), .val (own_of [c0, c1] o0 o1 o2 o3 o4 o5)] [(own_ex (2 : Int32) c0 c1 o0 o1 o2 o3 o4 o5), (own_of [c0, c1] o0 o1 o2 o3 o4 o5)])) (fun _ kk => st444 _ kk) ?_
    refine own_step (T' := T444) (g' := (mkF m 145 #[.val (.int p0), .val (.int p1), .val (.int p2), .val (.int p3), .val (.int (2 : Int32)), .val (.int c0), .val (.int c1), .val (.int c2), .val (.ref a171), .val (.ref a181), .val (.ref a205), .val (.ref a246), .val (.ref a205), .val (.ref a398), .val (own_of [c0, c1] o0 o1 o2 o3 o4 o5)] [])) (fun _ kk => acmp X444 hx rfl own_of_ref own_ex_ref (pc0 := 142) (pc' := 145) rfl (hb hby at_142) rfl (same := true) (by rw [own_agree2 (c0 := c0) (c1 := c1)]; simp) (by decide) rfl kk) ?_
    refine own_step (T' := T444) (g' := (mkF m 146 #[.val (.int p0), .val (.int p1), .val (.int p2), .val (.int p3), .val (.int (2 : Int32)), .val (.int c0), .val (.int c1), .val (.int c2), .val (.ref a171), .val (.ref a181), .val (.ref a205), .val (.ref a246), .val (.ref a205), .val (.ref a398), .val (own_of [c0, c1] o0 o1 o2 o3 o4 o5)] [(.int (1 : Int32))])) (fun _ kk => XS.iconst X444.here hx rfl (hb hby at_145) kk) ?_
    refine own_step (T' := T444) (g' := (mkF m 150 #[.val (.int p0), .val (.int p1), .val (.int p2), .val (.int p3), .val (.int (2 : Int32)), .val (.int c0), .val (.int c1), .val (.int c2), .val (.ref a171), .val (.ref a181), .val (.ref a205), .val (.ref a246), .val (.ref a205), .val (.ref a398), .val (own_of [c0, c1] o0 o1 o2 o3 o4 o5)] [(.int (1 : Int32))])) (fun _ kk => XS.goto X444.here hx rfl (pc0 := 146) (pc' := 150) rfl (hb hby at_146) (by decide) (by decide) kk) ?_
    exact own_retNW X444 hx hS0 F440 hlk (t := .boolean) hret (by simp) (hb hby at_150) F446 ⟨rfl, F445⟩ (by decide) (by decide)
  · rw [hn]
    refine own_step (T' := T294) (g' := (mkF m 90 #[.val (.int p0), .val (.int p1), .val (.int p2), .val (.int p3), .val (.int (3 : Int32)), .val (.int c0), .val (.int c1), .val (.int c2), .val (.ref a171), .val (.ref a181), .val (.ref a205), .val (.ref a246), .val (.ref a171), .unset, .unset] [])) (fun _ kk => XS.icmpYes X294.here hx rfl (pc0 := 80) (pc' := 90) rfl (hb hby at_80) rfl (feq (by decide)).2 (by decide) (by decide) kk) ?_
    refine own_step (T' := T294) (g' := (mkF m 92 #[.val (.int p0), .val (.int p1), .val (.int p2), .val (.int p3), .val (.int (3 : Int32)), .val (.int c0), .val (.int c1), .val (.int c2), .val (.ref a171), .val (.ref a181), .val (.ref a205), .val (.ref a246), .val (.ref a171), .unset, .unset] [(.int (3 : Int32))])) (fun _ kk => XS.iload X294.here hx rfl (hb hby at_90) rfl kk) ?_
    refine own_step (T' := T294) (g' := (mkF m 93 #[.val (.int p0), .val (.int p1), .val (.int p2), .val (.int p3), .val (.int (3 : Int32)), .val (.int c0), .val (.int c1), .val (.int c2), .val (.ref a171), .val (.ref a181), .val (.ref a205), .val (.ref a246), .val (.ref a171), .unset, .unset] [(.int (2 : Int32)), (.int (3 : Int32))])) (fun _ kk => XS.iconst X294.here hx rfl (hb hby at_92) kk) ?_
    refine own_step (T' := T294) (g' := (mkF m 103 #[.val (.int p0), .val (.int p1), .val (.int p2), .val (.int p3), .val (.int (3 : Int32)), .val (.int c0), .val (.int c1), .val (.int c2), .val (.ref a171), .val (.ref a181), .val (.ref a205), .val (.ref a246), .val (.ref a171), .unset, .unset] [])) (fun _ kk => XS.icmpYes X294.here hx rfl (pc0 := 93) (pc' := 103) rfl (hb hby at_93) rfl (feq (by decide)).2 (by decide) (by decide) kk) ?_
    refine own_step (T' := T294) (g' := (mkF m 105 #[.val (.int p0), .val (.int p1), .val (.int p2), .val (.int p3), .val (.int (3 : Int32)), .val (.int c0), .val (.int c1), .val (.int c2), .val (.ref a171), .val (.ref a181), .val (.ref a205), .val (.ref a246), .val (.ref a171), .unset, .unset] [(.int (3 : Int32))])) (fun _ kk => XS.iload X294.here hx rfl (hb hby at_103) rfl kk) ?_
    refine own_step (T' := T294) (g' := (mkF m 106 #[.val (.int p0), .val (.int p1), .val (.int p2), .val (.int p3), .val (.int (3 : Int32)), .val (.int c0), .val (.int c1), .val (.int c2), .val (.ref a171), .val (.ref a181), .val (.ref a205), .val (.ref a246), .val (.ref a171), .unset, .unset] [(.int (3 : Int32)), (.int (3 : Int32))])) (fun _ kk => XS.iconst X294.here hx rfl (hb hby at_105) kk) ?_
    refine own_step (T' := T294) (g' := (mkF m 109 #[.val (.int p0), .val (.int p1), .val (.int p2), .val (.int p3), .val (.int (3 : Int32)), .val (.int c0), .val (.int c1), .val (.int c2), .val (.ref a171), .val (.ref a181), .val (.ref a205), .val (.ref a246), .val (.ref a171), .unset, .unset] [])) (fun _ kk => XS.icmpNo X294.here hx rfl (hb hby at_106) rfl (teq rfl).2 kk) ?_
    refine own_step (T' := T294) (g' := (mkF m 111 #[.val (.int p0), .val (.int p1), .val (.int p2), .val (.int p3), .val (.int (3 : Int32)), .val (.int c0), .val (.int c1), .val (.int c2), .val (.ref a171), .val (.ref a181), .val (.ref a205), .val (.ref a246), .val (.ref a171), .unset, .unset] [(.ref a246)])) (fun _ kk => XS.aload X294.here hx rfl (hb hby at_109) rfl rfl kk) ?_
    refine own_step (T' := T294) (g' := (mkF m 113 #[.val (.int p0), .val (.int p1), .val (.int p2), .val (.int p3), .val (.int (3 : Int32)), .val (.int c0), .val (.int c1), .val (.int c2), .val (.ref a171), .val (.ref a181), .val (.ref a205), .val (.ref a246), .val (.ref a246), .unset, .unset] [])) (fun _ kk => XS.astore X294.here hx rfl (hb hby at_111) rfl rfl (l' := #[.val (.int p0), .val (.int p1), .val (.int p2), .val (.int p3), .val (.int (3 : Int32)), .val (.int c0), .val (.int c1), .val (.int c2), .val (.ref a171), .val (.ref a181), .val (.ref a205), .val (.ref a246), .val (.ref a246), .unset, .unset]) rfl kk) ?_
    obtain ⟨T448, h448, X448, e448, E448, A448, D448, U448, st448⟩ := newO X294 hx hZ hown (w5 hw) (w6 hw) (w7 hw) e294 (g := (mkF m 113 #[.val (.int p0), .val (.int p1), .val (.int p2), .val (.int p3), .val (.int (3 : Int32)), .val (.int c0), .val (.int c1), .val (.int c2), .val (.ref a171), .val (.ref a181), .val (.ref a205), .val (.ref a246), .val (.ref a246), .unset, .unset] [])) rfl (hb hby at_113) (by decide) (by decide)
    obtain ⟨a447, g448⟩ : ∃ z, z = h294.size := ⟨_, rfl⟩
    rw [← g448] at A448 D448 U448 st448
    have ne449 : a171 ≠ a447 := Nat.ne_of_lt (by rw [g448]; exact F297.lt)
    have ne450 : a181 ≠ a447 := Nat.ne_of_lt (by rw [g448]; exact F299.lt)
    have ne451 : a205 ≠ a447 := Nat.ne_of_lt (by rw [g448]; exact F301.lt)
    have ne452 : a246 ≠ a447 := Nat.ne_of_lt (by rw [g448]; exact F307.lt)
    have ge453 : Z.heap.size ≤ a447 := by rw [g448]; exact F305.2.1
    have ng454 : h0.size ≤ a447 := by rw [g448]; exact F306.1
    have F455 := Safe.ext E448 F303 F296
    have F456 := F297.ext E448
    have F457 := Safe.ext E448 F303 F298
    have F458 := F299.ext E448
    have F459 := Safe.ext E448 F303 F300
    have F460 := F301.ext E448
    have F461 := Safe.ext E448 F303 F302
    have F462 := F307.ext E448
    have F463 := CHv.ext E448 F303
    have F464 := Nat.le_trans F304 E448.1
    have F465 := F305.ext E448
    have F466 := F306.ext E448
    have F467 := Safe.ext E448 F303 (Safe.new (Nat.le_of_eq g448.symm))
    have F468 : own_Obj Z h448 a447 "java/lang/String" := own_Obj.new A448 U448
    refine own_step (T' := T448) (g' := (mkF m 116 #[.val (.int p0), .val (.int p1), .val (.int p2), .val (.int p3), .val (.int (3 : Int32)), .val (.int c0), .val (.int c1), .val (.int c2), .val (.ref a171), .val (.ref a181), .val (.ref a205), .val (.ref a246), .val (.ref a246), .unset, .unset] [(.ref a447)])) (fun _ kk => st448 _ kk) ?_
    refine own_step (T' := T448) (g' := (mkF m 117 #[.val (.int p0), .val (.int p1), .val (.int p2), .val (.int p3), .val (.int (3 : Int32)), .val (.int c0), .val (.int c1), .val (.int c2), .val (.ref a171), .val (.ref a181), .val (.ref a205), .val (.ref a246), .val (.ref a246), .unset, .unset] [(.ref a447), (.ref a447)])) (fun _ kk => XS.dup X448.here hx rfl (hb hby at_116) rfl rfl kk) ?_
    refine own_step (T' := T448) (g' := (mkF m 119 #[.val (.int p0), .val (.int p1), .val (.int p2), .val (.int p3), .val (.int (3 : Int32)), .val (.int c0), .val (.int c1), .val (.int c2), .val (.ref a171), .val (.ref a181), .val (.ref a205), .val (.ref a246), .val (.ref a246), .unset, .unset] [(.ref a246), (.ref a447), (.ref a447)])) (fun _ kk => XS.aload X448.here hx rfl (hb hby at_117) rfl rfl kk) ?_
    obtain ⟨u469, Fu469⟩ := F468.fld (w6 hw) (Or.inr (w20 hw) : Laid Z a0 "java/lang/String" "java/lang/String" "value" "[B")
    obtain ⟨y469, Fy469⟩ := F468.fld (w6 hw) (Or.inr (w21 hw) : Laid Z a0 "java/lang/String" "java/lang/String" "coder" "B")
    obtain ⟨T469, L469, _, h469, X469, e469, ⟨rfl, Nq469, Kq469, Eq469, Cq469, sb469, kb469, ga469, gb469, nb469, Vq469, Aq469⟩, st469⟩ := own_bcallC X448 hx hZ hown rfl (w8 hw) (w9 hw) (w10 hw) (by decide) (a := a447) (g := (mkF m 119 #[.val (.int p0), .val (.int p1), .val (.int p2), .val (.int p3), .val (.int (3 : Int32)), .val (.int c0), .val (.int c1), .val (.int c2), .val (.ref a171), .val (.ref a181), .val (.ref a205), .val (.ref a246), .val (.ref a246), .unset, .unset] [(.ref a246), (.ref a447), (.ref a447)])) rfl (by rw [hml]; rfl) (argsL := [.ref a246]) (rest := [(.ref a447)]) (StrChars.Road.backV (W := 1) hZ (own_hws hw) (kI := 4) (w6 hw) (cs := [c0, c1, c2]) (n := 3) (n0 := Z.heap.size) ge453 (Nat.le_trans F465.2.1 (Nat.le_refl _)) F468.1 Fu469 Fy469 F462 (SC.ext F465.2) hzc rfl rfl (by decide) (by decide) (hB.take 3) rfl (by decide) (by decide)) e448 pd___C_V rfl rfl (by show 2 * 0 + _ ≤ _; exact Nat.le_of_eq rfl) (hb hby at_119) (by decide) (by decide)
    have F470 := Fr.app F295 Nq469
    have F471 := Safe.keep Kq469 (allS F467 all0) F463 F455
    have F472 := F456.keep Kq469 (ninS ne449 nin0)
    have F473 := Safe.keep Kq469 (allS F467 all0) F463 F457
    have F474 := F458.keep Kq469 (ninS ne450 nin0)
    have F475 := Safe.keep Kq469 (allS F467 all0) F463 F459
    have F476 := F460.keep Kq469 (ninS ne451 nin0)
    have F477 := Safe.keep Kq469 (allS F467 all0) F463 F461
    have F478 := F462.keep Kq469 (ninS ne452 nin0)
    have F479 := Safe.keep Kq469 (allS F467 all0) F463 F467
    have F480 := F468.keep Kq469
    have F481 := CHv.keep Kq469 (allS F467 all0) F463
    have F482 := Nat.le_trans F464 Kq469.1
    have F483 := F465.keep Kq469 (allS ge453 all0)
    have F484 := F466.trans Kq469 (allS (Or.inr ng454) all0)
    refine own_step (T' := T469) (g' := (mkF m 122 #[.val (.int p0), .val (.int p1), .val (.int p2), .val (.int p3), .val (.int (3 : Int32)), .val (.int c0), .val (.int c1), .val (.int c2), .val (.ref a171), .val (.ref a181), .val (.ref a205), .val (.ref a246), .val (.ref a246), .unset, .unset] [(.ref a447)])) (fun _ kk => st469 _ kk) ?_
    have F485 : own_Str Z h469 a447 [c0, c1, c2] := ⟨_, _, F480.1, Cq469, Vq469, Aq469⟩
    refine own_step (T' := T469) (g' := (mkF m 124 #[.val (.int p0), .val (.int p1), .val (.int p2), .val (.int p3), .val (.int (3 : Int32)), .val (.int c0), .val (.int c1), .val (.int c2), .val (.ref a171), .val (.ref a181), .val (.ref a205), .val (.ref a246), .val (.ref a246), .val (.ref a447), .unset] [])) (fun _ kk => XS.astore X469.here hx rfl (hb hby at_122) rfl rfl (l' := #[.val (.int p0), .val (.int p1), .val (.int p2), .val (.int p3), .val (.int (3 : Int32)), .val (.int c0), .val (.int c1), .val (.int c2), .val (.ref a171), .val (.ref a181), .val (.ref a205), .val (.ref a246), .val (.ref a246), .val (.ref a447), .unset]) rfl kk) ?_
    refine own_step (T' := T469) (g' := (mkF m 126 #[.val (.int p0), .val (.int p1), .val (.int p2), .val (.int p3), .val (.int (3 : Int32)), .val (.int c0), .val (.int c1), .val (.int c2), .val (.ref a171), .val (.ref a181), .val (.ref a205), .val (.ref a246), .val (.ref a246), .val (.ref a447), .unset] [(.ref a447)])) (fun _ kk => XS.aload X469.here hx rfl (hb hby at_124) rfl rfl kk) ?_
    obtain ⟨T486, L486, _, h486, X486, e486, ⟨rfl, No, Ko⟩, st486⟩ := own_callS X469 hx hZ hown (w26 hw) (w27 hw) (w29 hw) (w28 hw) (by decide) (g := (mkF m 126 #[.val (.int p0), .val (.int p1), .val (.int p2), .val (.int p3), .val (.int (3 : Int32)), .val (.int c0), .val (.int c1), .val (.int c2), .val (.ref a171), .val (.ref a181), .val (.ref a205), .val (.ref a246), .val (.ref a246), .val (.ref a447), .unset] [(.ref a447)])) rfl (by rw [hml]; rfl) (argsL := [(.ref a447)]) (rest := []) (rm_of l Z a0 hw a447 va kv o0 o1 o2 o3 o4 o5 y0 y1 y2 y3 y4 y5 [c0, c1, c2] zc _ F483 F485 (hB.take 3) (by show 3 ≤ 4000; decide) SV AV EV G0 G1 G2 G3 G4 G5 Y0 Y1 Y2 Y3 Y4 Y5 SC hzc) e469 pd__Ljava_lang_String__Lcom_example_lakeledger_lakeledger_Filter_Operator_ rfl rfl (W := 0) (by show 2 * 0 + _ ≤ _; first | exact Nat.le_of_eq rfl | simp [own_cref own_of_ref]) (hb hby at_126) (by decide) (by decide) (by decide) (by decide)
    have F487 := Fr.app F470 No
    have F488 := CHv.keep Ko all0 F481
    have F489 := Nat.le_trans F482 Ko.1
    have F490 := F483.keep Ko all0
    have F491 := F484.trans Ko all0
    refine own_step (T' := T486) (g' := (mkF m 129 #[.val (.int p0), .val (.int p1), .val (.int p2), .val (.int p3), .val (.int (3 : Int32)), .val (.int c0), .val (.int c1), .val (.int c2), .val (.ref a171), .val (.ref a181), .val (.ref a205), .val (.ref a246), .val (.ref a246), .val (.ref a447), .unset] [(own_of [c0, c1, c2] o0 o1 o2 o3 o4 o5)])) (fun _ kk => st486 _ kk) ?_
    refine own_step (T' := T486) (g' := (mkF m 131 #[.val (.int p0), .val (.int p1), .val (.int p2), .val (.int p3), .val (.int (3 : Int32)), .val (.int c0), .val (.int c1), .val (.int c2), .val (.ref a171), .val (.ref a181), .val (.ref a205), .val (.ref a246), .val (.ref a246), .val (.ref a447), .val (own_of [c0, c1, c2] o0 o1 o2 o3 o4 o5)] [])) (fun _ kk => XS.astore X486.here hx rfl (hb hby at_129) rfl own_of_ref (l' := #[.val (.int p0), .val (.int p1), .val (.int p2), .val (.int p3), .val (.int (3 : Int32)), .val (.int c0), .val (.int c1), .val (.int c2), .val (.ref a171), .val (.ref a181), .val (.ref a205), .val (.ref a246), .val (.ref a246), .val (.ref a447), .val (own_of [c0, c1, c2] o0 o1 o2 o3 o4 o5)]) (XS.store1 (o := .unset) rfl (Or.inl rfl) (own_cref own_of_ref)) kk) ?_
    refine own_step (T' := T486) (g' := (mkF m 133 #[.val (.int p0), .val (.int p1), .val (.int p2), .val (.int p3), .val (.int (3 : Int32)), .val (.int c0), .val (.int c1), .val (.int c2), .val (.ref a171), .val (.ref a181), .val (.ref a205), .val (.ref a246), .val (.ref a246), .val (.ref a447), .val (own_of [c0, c1, c2] o0 o1 o2 o3 o4 o5)] [(own_of [c0, c1, c2] o0 o1 o2 o3 o4 o5)])) (fun _ kk => XS.aload X486.here hx rfl (hb hby at_131) rfl own_of_ref kk) ?_
    refine own_step (T' := T486) (g' := (mkF m 135 #[.val (.int p0), .val (.int p1), .val (.int p2), .val (.int p3), .val (.int (3 : Int32)), .val (.int c0), .val (.int c1), .val (.int c2), .val (.ref a171), .val (.ref a181), .val (.ref a205), .val (.ref a246), .val (.ref a246), .val (.ref a447), .val (own_of [c0, c1, c2] o0 o1 o2 o3 o4 o5)] [(.int (3 : Int32)), (own_of [c0, c1, c2] o0 o1 o2 o3 o4 o5)])) (fun _ kk => XS.iload X486.here hx rfl (hb hby at_133) rfl kk) ?_
    refine own_step (T' := T486) (g' := (mkF m 137 #[.val (.int p0), .val (.int p1), .val (.int p2), .val (.int p3), .val (.int (3 : Int32)), .val (.int c0), .val (.int c1), .val (.int c2), .val (.ref a171), .val (.ref a181), .val (.ref a205), .val (.ref a246), .val (.ref a246), .val (.ref a447), .val (own_of [c0, c1, c2] o0 o1 o2 o3 o4 o5)] [(.int c0), (.int (3 : Int32)), (own_of [c0, c1, c2] o0 o1 o2 o3 o4 o5)])) (fun _ kk => XS.iload X486.here hx rfl (hb hby at_135) rfl kk) ?_
    refine own_step (T' := T486) (g' := (mkF m 139 #[.val (.int p0), .val (.int p1), .val (.int p2), .val (.int p3), .val (.int (3 : Int32)), .val (.int c0), .val (.int c1), .val (.int c2), .val (.ref a171), .val (.ref a181), .val (.ref a205), .val (.ref a246), .val (.ref a246), .val (.ref a447), .val (own_of [c0, c1, c2] o0 o1 o2 o3 o4 o5)] [(.int c1), (.int c0), (.int (3 : Int32)), (own_of [c0, c1, c2] o0 o1 o2 o3 o4 o5)])) (fun _ kk => XS.iload X486.here hx rfl (hb hby at_137) rfl kk) ?_
    obtain ⟨T493, L493, _, h493, X493, e493, ⟨rfl, Nq492, eh492⟩, st493⟩ := own_callS X486 hx hZ hown (w64 hw) (w65 hw) (w66 hw) (w2 hw) (by decide) (g := (mkF m 139 #[.val (.int p0), .val (.int p1), .val (.int p2), .val (.int p3), .val (.int (3 : Int32)), .val (.int c0), .val (.int c1), .val (.int c2), .val (.ref a171), .val (.ref a181), .val (.ref a205), .val (.ref a246), .val (.ref a246), .val (.ref a447), .val (own_of [c0, c1, c2] o0 o1 o2 o3 o4 o5)] [(.int c1), (.int c0), (.int (3 : Int32)), (own_of [c0, c1, c2] o0 o1 o2 o3 o4 o5)])) rfl (by rw [hml]; rfl) (argsL := [(.int (3 : Int32)), (.int c0), (.int c1)]) (rest := [(own_of [c0, c1, c2] o0 o1 o2 o3 o4 o5)]) (rm_ex l Z a0 hw (3 : Int32) c0 c1 o0 o1 o2 o3 o4 o5 _ F490 S0 S1 S2 S3 S4 S5) e486 pd__ICC_Lcom_example_lakeledger_lakeledger_Filter_Operator_ rfl rfl (W := 1) (by show 2 * 0 + _ ≤ _; first | exact Nat.le_of_eq rfl | simp [own_cref own_of_ref]) (hb hby at_139) (by decide) (by decide) (by decide) (by decide)
    have F494 := Fr.app F487 Nq492
    have F495 := e493.trans eh492
    refine own_step (T' := T493) (g' := (mkF m 142 #[.val (.int p0), .val (.int p1), .val (.int p2), .val (.int p3), .val (.int (3 : Int32)), .val (.int c0), .val (.int c1), .val (.int c2), .val (.ref a171), .val (.ref a181), .val (.ref a205), .val (.ref a246), .val (.ref a246), .val (.ref a447), .val (own_of [c0, c1, c2] o0 o1 o2 o3 o4 o5)] [(own_ex (3 : Int32) c0 c1 o0 o1 o2 o3 o4 o5), (own_of [c0, c1, c2] o0 o1 o2 o3 o4 o5)])) (fun _ kk => st493 _ kk) ?_
    refine own_step (T' := T493) (g' := (mkF m 145 #[.val (.int p0), .val (.int p1), .val (.int p2), .val (.int p3), .val (.int (3 : Int32)), .val (.int c0), .val (.int c1), .val (.int c2), .val (.ref a171), .val (.ref a181), .val (.ref a205), .val (.ref a246), .val (.ref a246), .val (.ref a447), .val (own_of [c0, c1, c2] o0 o1 o2 o3 o4 o5)] [])) (fun _ kk => acmp X493 hx rfl own_of_ref own_ex_ref (pc0 := 142) (pc' := 145) rfl (hb hby at_142) rfl (same := true) (by rw [own_agree3 (c0 := c0) (c1 := c1)]; simp) (by decide) rfl kk) ?_
    refine own_step (T' := T493) (g' := (mkF m 146 #[.val (.int p0), .val (.int p1), .val (.int p2), .val (.int p3), .val (.int (3 : Int32)), .val (.int c0), .val (.int c1), .val (.int c2), .val (.ref a171), .val (.ref a181), .val (.ref a205), .val (.ref a246), .val (.ref a246), .val (.ref a447), .val (own_of [c0, c1, c2] o0 o1 o2 o3 o4 o5)] [(.int (1 : Int32))])) (fun _ kk => XS.iconst X493.here hx rfl (hb hby at_145) kk) ?_
    refine own_step (T' := T493) (g' := (mkF m 150 #[.val (.int p0), .val (.int p1), .val (.int p2), .val (.int p3), .val (.int (3 : Int32)), .val (.int c0), .val (.int c1), .val (.int c2), .val (.ref a171), .val (.ref a181), .val (.ref a205), .val (.ref a246), .val (.ref a246), .val (.ref a447), .val (own_of [c0, c1, c2] o0 o1 o2 o3 o4 o5)] [(.int (1 : Int32))])) (fun _ kk => XS.goto X493.here hx rfl (pc0 := 146) (pc' := 150) rfl (hb hby at_146) (by decide) (by decide) kk) ?_
    exact own_retNW X493 hx hS0 F489 hlk (t := .boolean) hret (by simp) (hb hby at_150) F495 ⟨rfl, F494⟩ (by decide) (by decide)
set_option maxRecDepth 65536 in
set_option maxHeartbeats 40000000 in
theorem comes_1 {Post : Tables → Env → Array Value → State → Outcome → State → Prop} (hpost : ∀ tb e args s v u, (limb_1_1.after args s (.returned v) u = true ∧ limb_1_2.after args s (.returned v) u = true ∧ True) → ReturnedEndW s (.returned v) u (Jvm.fieldLocs frame_1_writes args s ++ Jvm.arrayLocs frame_1_arrays args s ++ Jvm.staticLocs frame_1_statics s) 32 1216 → Post tb e args s (.returned v) u) :
    ArmFor flags0 classFile x code maxLocals ret World_1 tables_1 room_1 Calls_1 rest_1 Pre_1 Post := by
  intro l hfl _ _ p e ha hc hk s m args below hf hA hF happ hP
  obtain ⟨hcalls, hrest, hpre⟩ := hP
  obtain ⟨-, -, -, hnamed, -, -, -, hat⟩ := (Spec.applies_iff hf).mp happ
  obtain ⟨hg, hn⟩ := and_e (Cond.before_iff.mp (show (Jvm.Cond.and given_1 narrow_1).before args s = true from hpre))
  obtain ⟨hg1, hg⟩ := and_e hg
  obtain ⟨hg2, hg⟩ := and_e hg
  obtain ⟨hg3, hg⟩ := and_e hg
  obtain ⟨hg4, hg⟩ := and_e hg
  have hg5 := hg
  obtain ⟨hn1, hn⟩ := and_e hn
  obtain ⟨hn2, hn⟩ := and_e hn
  obtain ⟨hn3, hn⟩ := and_e hn
  obtain ⟨hn4, hn⟩ := and_e hn
  obtain ⟨hn5, hn⟩ := and_e hn
  obtain ⟨hn6, hn⟩ := and_e hn
  obtain ⟨hn7, hn⟩ := and_e hn
  obtain ⟨hn8, hn⟩ := and_e hn
  obtain ⟨hn9, hn⟩ := and_e hn
  obtain ⟨hn10, hn⟩ := and_e hn
  obtain ⟨hn11, hn⟩ := and_e hn
  obtain ⟨hn12, hn⟩ := and_e hn
  obtain ⟨hn13, hn⟩ := and_e hn
  obtain ⟨hn14, hn⟩ := and_e hn
  obtain ⟨hn15, hn⟩ := and_e hn
  obtain ⟨hn16, hn⟩ := and_e hn
  obtain ⟨hn17, hn⟩ := and_e hn
  obtain ⟨hn18, hn⟩ := and_e hn
  obtain ⟨hn19, hn⟩ := and_e hn
  obtain ⟨hn20, hn⟩ := and_e hn
  obtain ⟨hn21, hn⟩ := and_e hn
  obtain ⟨hn22, hn⟩ := and_e hn
  obtain ⟨hn23, hn⟩ := and_e hn
  obtain ⟨hn24, hn⟩ := and_e hn
  obtain ⟨hn25, hn⟩ := and_e hn
  obtain ⟨hn26, hn⟩ := and_e hn
  obtain ⟨hn27, hn⟩ := and_e hn
  obtain ⟨hn28, hn⟩ := and_e hn
  obtain ⟨hn29, hn⟩ := and_e hn
  obtain ⟨hn30, hn⟩ := and_e hn
  obtain ⟨hn31, hn⟩ := and_e hn
  obtain ⟨hn32, hn⟩ := and_e hn
  obtain ⟨hn33, hn⟩ := and_e hn
  obtain ⟨hn34, hn⟩ := and_e hn
  obtain ⟨hn35, hn⟩ := and_e hn
  obtain ⟨hn36, hn⟩ := and_e hn
  obtain ⟨hn37, hn⟩ := and_e hn
  obtain ⟨hn38, hn⟩ := and_e hn
  obtain ⟨hn39, hn⟩ := and_e hn
  obtain ⟨hn40, hn⟩ := and_e hn
  obtain ⟨hn41, hn⟩ := and_e hn
  obtain ⟨hn42, hn⟩ := and_e hn
  obtain ⟨hn43, hn⟩ := and_e hn
  obtain ⟨hn44, hn⟩ := and_e hn
  obtain ⟨hn45, hn⟩ := and_e hn
  obtain ⟨hn46, hn⟩ := and_e hn
  obtain ⟨hn47, hn⟩ := and_e hn
  have hn48 := hn
  obtain ⟨w0, w1, w2, w3, rfl⟩ : ∃ w0 w1 w2 w3 : Value, args = #[w0, w1, w2, w3] := by
    have hs : args.size = 4 := by simpa [Cond.value, given_1] using hg1
    obtain ⟨L⟩ := args
    match L, hs with
    | [w0, w1, w2, w3], _ => exact ⟨w0, w1, w2, w3, rfl⟩
  have hw := fun d (hd : d ∈ tables_1) => atoms_spec (ws := Jvm.Cond.code x code maxLocals ret :: tables_1) hat d (List.mem_cons_of_mem _ hd)
  have hsets := (atoms_of jdkStatics_1 (show (jdkStatics_1.foldr Jvm.Cond.and restOwn_1).before _ s = true from hrest)).1
  obtain ⟨i0, e0⟩ := is_v hg2
  obtain rfl : w0 = (.int i0) := Option.some.inj e0
  obtain ⟨i1, e1⟩ := is_v hg3
  obtain rfl : w1 = (.int i1) := Option.some.inj e1
  obtain ⟨i2, e2⟩ := is_v hg4
  obtain rfl : w2 = (.int i2) := Option.some.inj e2
  obtain ⟨i3, e3⟩ := is_v hg5
  obtain rfl : w3 = (.int i3) := Option.some.inj e3
  have hfit : Fit s := fun {y c} hc i hi => by
    obtain ⟨ha, rfl⟩ := Array.getElem?_eq_some_iff.mp hc
    have q := List.all_eq_true.mp ((Array.all_eq_true_iff_forall_mem.mp hF) _ (Array.getElem_mem ha)) i (List.mem_range.mpr hi)
    simpa [Array.getElem?_eq_getElem hi] using q
  obtain ⟨o0, ev0⟩ := exa_v hn4
  have S0 := Sta.start ev0 (Or.inr ⟨(w28 hw), (w42 hw)⟩)
  obtain ⟨y0, ey0⟩ := exa_v hn16
  have G0 : Fld s s.heap o0 "com/example/lakeledger/lakeledger/Filter$Operator" "symbol" "Ljava/lang/String;" (.ref y0) := Fld.start ((fld_at ev0).symm.trans ey0)
  have Y0 : own_Str s s.heap y0 [(61 : Int32)] := own_sym hfit ey0 hn16 hn17 hn18 hn19 (fun k hk => match k, hk with | 0, _ => hn43) (by decide)
  obtain ⟨o1, ev1⟩ := exa_v hn6
  have S1 := Sta.start ev1 (Or.inr ⟨(w28 hw), (w43 hw)⟩)
  obtain ⟨y1, ey1⟩ := exa_v hn20
  have G1 : Fld s s.heap o1 "com/example/lakeledger/lakeledger/Filter$Operator" "symbol" "Ljava/lang/String;" (.ref y1) := Fld.start ((fld_at ev1).symm.trans ey1)
  have Y1 : own_Str s s.heap y1 [(33 : Int32), (61 : Int32)] := own_sym hfit ey1 hn20 hn21 hn22 hn23 (fun k hk => match k, hk with | 0, _ => hn40 | 1, _ => hn46) (by decide)
  obtain ⟨o2, ev2⟩ := exa_v hn8
  have S2 := Sta.start ev2 (Or.inr ⟨(w28 hw), (w44 hw)⟩)
  obtain ⟨y2, ey2⟩ := exa_v hn24
  have G2 : Fld s s.heap o2 "com/example/lakeledger/lakeledger/Filter$Operator" "symbol" "Ljava/lang/String;" (.ref y2) := Fld.start ((fld_at ev2).symm.trans ey2)
  have Y2 : own_Str s s.heap y2 [(60 : Int32)] := own_sym hfit ey2 hn24 hn25 hn26 hn27 (fun k hk => match k, hk with | 0, _ => hn44) (by decide)
  obtain ⟨o3, ev3⟩ := exa_v hn10
  have S3 := Sta.start ev3 (Or.inr ⟨(w28 hw), (w45 hw)⟩)
  obtain ⟨y3, ey3⟩ := exa_v hn28
  have G3 : Fld s s.heap o3 "com/example/lakeledger/lakeledger/Filter$Operator" "symbol" "Ljava/lang/String;" (.ref y3) := Fld.start ((fld_at ev3).symm.trans ey3)
  have Y3 : own_Str s s.heap y3 [(60 : Int32), (61 : Int32)] := own_sym hfit ey3 hn28 hn29 hn30 hn31 (fun k hk => match k, hk with | 0, _ => hn41 | 1, _ => hn48) (by decide)
  obtain ⟨o4, ev4⟩ := exa_v hn12
  have S4 := Sta.start ev4 (Or.inr ⟨(w28 hw), (w46 hw)⟩)
  obtain ⟨y4, ey4⟩ := exa_v hn32
  have G4 : Fld s s.heap o4 "com/example/lakeledger/lakeledger/Filter$Operator" "symbol" "Ljava/lang/String;" (.ref y4) := Fld.start ((fld_at ev4).symm.trans ey4)
  have Y4 : own_Str s s.heap y4 [(62 : Int32)] := own_sym hfit ey4 hn32 hn33 hn34 hn35 (fun k hk => match k, hk with | 0, _ => hn45) (by decide)
  obtain ⟨o5, ev5⟩ := exa_v hn14
  have S5 := Sta.start ev5 (Or.inr ⟨(w28 hw), (w47 hw)⟩)
  obtain ⟨y5, ey5⟩ := exa_v hn36
  have G5 : Fld s s.heap o5 "com/example/lakeledger/lakeledger/Filter$Operator" "symbol" "Ljava/lang/String;" (.ref y5) := Fld.start ((fld_at ev5).symm.trans ey5)
  have Y5 : own_Str s s.heap y5 [(62 : Int32), (61 : Int32)] := own_sym hfit ey5 hn36 hn37 hn38 hn39 (fun k hk => match k, hk with | 0, _ => hn42 | 1, _ => hn47) (by decide)
  obtain ⟨va, evv⟩ := arr_v hn1
  obtain ⟨cv, AVr⟩ := Arr.start evv hn1
  have EV := Exa.start evv hn2
  have SV := Sta.start evv (Or.inl (w48 hw))
  have hsz : cv.slots.size = 6 := own_len (k := 6) evv AVr (Cond.eq_int (Cond.before_iff.mpr hn3) rfl) (by decide)
  have el0 := own_elem (j := (0 : Int32)) evv AVr ev0 hn5 (by decide)
  have el1 := own_elem (j := (1 : Int32)) evv AVr ev1 hn7 (by decide)
  have el2 := own_elem (j := (2 : Int32)) evv AVr ev2 hn9 (by decide)
  have el3 := own_elem (j := (3 : Int32)) evv AVr ev3 hn11 (by decide)
  have el4 := own_elem (j := (4 : Int32)) evv AVr ev4 hn13 (by decide)
  have el5 := own_elem (j := (5 : Int32)) evv AVr ev5 hn15 (by decide)
  have AV : Arv s s.heap va cv.cls (.object "com/example/lakeledger/lakeledger/Filter$Operator") (6 : Int32) [(.ref o0), (.ref o1), (.ref o2), (.ref o3), (.ref o4), (.ref o5)] .null := Arv.start hfit AVr (by rw [hsz]; decide) (by rw [hsz]; rfl) (by decide) rfl ⟨el0, el1, el2, el3, el4, el5, trivial⟩
  obtain ⟨zc, evc⟩ := is_v (Cond.before_iff.mp (hsets _ (List.mem_of_getElem? (i := 1) rfl)))
  have SC := Sta.start evc (Or.inl (hsets _ (List.mem_of_getElem? (i := 0) rfl)))
  have hzc : ¬ zc = (0 : Int32) := fun q => by
    have h1 := not_v (Cond.before_iff.mp (hsets _ (List.mem_of_getElem? (i := 2) rfl)))
    exact gotF (Cond.eq_ints evc (Term.int_eval 0)) h1 q
  have hCH : CHv s consts_1 s.vm s.heap := CHv.start (own_EW hw) (fun q hq => hcalls.1 q hq) (hsets _ (List.mem_of_getElem? (i := 2) rfl)) (own_strAtoms hw _ (by simp [Bundle.stringAtoms])) (own_strAtoms hw _ (by simp [Bundle.stringAtoms, Bundle.sN]))
  obtain ⟨n, o, g1, g2, g3, _, L, rfl, ⟨rfl, N⟩, hq⟩ := rm_law l s _ hw i0 i1 i2 i3 zc va cv.cls o0 o1 o2 o3 o4 o5 y0 y1 y2 y3 y4 y5 s.heap (Old.start s) S0 S1 S2 S3 S4 S5 SV AV EV G0 G1 G2 G3 G4 G5 Y0 Y1 Y2 Y3 Y4 Y5 SC hzc tables_1 p e ha hc hk s m _ below hf ((Spec.applies_iff_loose hf).mp happ).1 ⟨rfl, State.Warmed39.refl s, rfl, hCH⟩ trivial
  refine ⟨n, _, g1, g2, g3, hpost _ _ _ _ _ _ ⟨Cond.after_iff.mpr rfl, Cond.after_iff.mpr (eq_i res_at (Term.int_eval (1)) rfl), trivial⟩ ⟨hq.1, hq.2.1, hq.2.2.1, (hq.2.2.2.sift fun y hy => Or.inr (N y hy)).mono (by decide) (by decide)⟩⟩
theorem main_1_1 : Claimed_1_1 := comes_1 fun _ _ _ _ _ _ h hF => ⟨h.1, hF⟩
theorem main_1_2 : Claimed_1_2 := comes_1 fun _ _ _ _ _ _ h hF => ⟨h.2.1, hF⟩
end Jvm.Pilot.@@N@@
namespace Jvm.Pilot.@@N@@
open Jvm Jvm.ClassFile Sem Op Lib Jvm.Free Jvm.Stand Jvm.Pilot.@@N@@.Jvm.D
/-! MADE BY PROGRAM (witnessworld.py) out of the Statement's table words and the real class files: 22 classes; the members and pool entries that the words name. The judged class is class 1, her method 3. -/
namespace start1
open Jvm.ClassFile
def u (s : String) : CpInfo := .utf8 (stringToUtf16 s)
/-- a pool by its gaps: so many unusable entries, then the entry; so many at the end -/
def gap : Nat → List CpInfo → List CpInfo
  | 0, r => r
  | n + 1, r => .unusable :: gap n r
def poolList (es : List (Nat × CpInfo)) (last : Nat) : List CpInfo := es.foldr (fun e r => gap e.1 (e.2 :: r)) (gap last [])
def pool (es : List (Nat × CpInfo)) (last : Nat) : Array CpInfo := ⟨poolList es last⟩
def fileOf (pool : Array CpInfo) (this : Nat) (attrs : Array Attribute := #[]) (ms : Array MethodInfo := #[]) (fl : Nat := 33) (sup : Nat := 0) (ifs : Array Nat := #[]) (fds : Array FieldInfo := #[]) : ClassFile where
  minorVersion := 0
  majorVersion := 65
  constantPool := pool
  accessFlags := fl
  thisClass := this
  superClass := sup
  interfaces := ifs
  fields := fds
  methods := ms
  attributes := attrs
def plain (name : String) (sup : Option ClassId) : Class where
  name := name
  kind := .ordinary
  loader := none
  accessFlags := 33
  super := sup
  interfaces := #[]
  cf := none
  fields := #[]
  methods := #[]
  instanceTypes := #[]
  staticTypes := #[]
  resolved := #[]
  callSites := []
  init := .initialized
  statics := none
  mirror := none

def pool0 : Array CpInfo := pool [(5, u "<init>"), (0, u "()V"), (1, .class_ 10), (1, u "java/lang/Object"), (85, u "clone"), (0, u "()Ljava/lang/Object;")] 26

def k0c0 : Code := { maxStack := 0, maxLocals := 1, code := object_method_1_code, exceptionTable := #[], attributes := #[] }
def k0m0 : Method := { name := "<init>", desc := "()V", sig := { parameters := [], returnType := none }, accessFlags := 1, code := some k0c0 }
def k0m1 : Method := { name := "clone", desc := "()Ljava/lang/Object;", sig := { parameters := [], returnType := some (.object "java/lang/Object") }, accessFlags := 260, code := none }
/-- java/lang/Object -/
def k0 : Class := { plain "java/lang/Object" none with
  accessFlags := 33
  interfaces := #[]
  cf := some (fileOf pool0 8 #[] #[{ accessFlags := 1, nameIndex := 5, descriptorIndex := 6, attributes := #[] }, { accessFlags := 260, nameIndex := 96, descriptorIndex := 97, attributes := #[] }] 33 0 #[] #[])
  fields := #[]
  methods := #[k0m0, k0m1]
  instanceTypes := #[]
  staticTypes := #[]
  resolved := Array.replicate 124 none
  statics := none }

def pool1 : Array CpInfo := pool [(2, .class_ 4), (1, u "java/lang/Object"), (0, u "<init>"), (0, u "()V"), (0, .fieldref 8 9), (0, .class_ 10), (0, .nameAndType 11 12), (0, u "com/example/lakeledger/lakeledger/Filter$Operator"), (0, u "EQ"), (0, u "Lcom/example/lakeledger/lakeledger/Filter$Operator;"), (0, .fieldref 8 14), (0, .nameAndType 15 12), (0, u "LT"), (0, .fieldref 8 17), (0, .nameAndType 18 12), (0, u "GT"), (0, .fieldref 8 20), (0, .nameAndType 21 12), (0, u "NE"), (0, .fieldref 8 23), (0, .nameAndType 24 12), (0, u "LE"), (0, .fieldref 8 26), (0, .nameAndType 27 12), (0, u "GE"), (0, .methodref 29 30), (0, .class_ 31), (0, .nameAndType 32 33), (0, u "com/example/lakeledger/lakeledger/OperatorOfPinLaw"), (0, u "draw"), (0, u "(I)C"), (0, .class_ 35), (0, u "java/lang/String"), (0, .methodref 34 37), (0, .nameAndType 5 38), (0, u "([C)V"), (0, .methodref 8 40), (0, .nameAndType 41 42), (0, u "of"), (0, u "(Ljava/lang/String;)Lcom/example/lakeledger/lakeledger/Filter$Operator;"), (0, .methodref 29 44), (0, .nameAndType 45 46), (0, u "expected"), (0, u "(ICC)Lcom/example/lakeledger/lakeledger/Filter$Operator;"), (3, u "law"), (0, u "(IIII)Z")] 8

def k1m0 : Method := { name := "<init>", desc := "()V", sig := { parameters := [], returnType := none }, accessFlags := 1, code := none }
def k1c1 : Code := { maxStack := 4, maxLocals := 2, code := method_2_code, exceptionTable := #[], attributes := #[] }
def k1m1 : Method := { name := "draw", desc := "(I)C", sig := { parameters := [.int], returnType := some .char }, accessFlags := 10, code := some k1c1 }
def k1c2 : Code := { maxStack := 2, maxLocals := 3, code := method_3_code, exceptionTable := #[], attributes := #[] }
def k1m2 : Method := { name := "expected", desc := "(ICC)Lcom/example/lakeledger/lakeledger/Filter$Operator;", sig := { parameters := [.int, .char, .char], returnType := some (.object "com/example/lakeledger/lakeledger/Filter$Operator") }, accessFlags := 10, code := some k1c2 }
def k1c3 : Code := { maxStack := 4, maxLocals := 15, code := code, exceptionTable := #[], attributes := #[] }
def k1m3 : Method := { name := "law", desc := "(IIII)Z", sig := { parameters := [.int, .int, .int, .int], returnType := some .boolean }, accessFlags := 9, code := some k1c3 }
/-- com/example/lakeledger/lakeledger/OperatorOfPinLaw -/
def k1 : Class := { plain "com/example/lakeledger/lakeledger/OperatorOfPinLaw" (some 0) with
  accessFlags := 49
  interfaces := #[]
  cf := some (fileOf pool1 29 #[] #[{ accessFlags := 1, nameIndex := 5, descriptorIndex := 6, attributes := #[] }, { accessFlags := 10, nameIndex := 32, descriptorIndex := 33, attributes := #[] }, { accessFlags := 10, nameIndex := 45, descriptorIndex := 46, attributes := #[] }, { accessFlags := 9, nameIndex := 50, descriptorIndex := 51, attributes := #[] }] 49 2 #[] #[])
  fields := #[]
  methods := #[k1m0, k1m1, k1m2, k1m3]
  instanceTypes := #[]
  staticTypes := #[]
  resolved := Array.replicate 60 none
  statics := none }

def pool2 : Array CpInfo := pool [(1, .class_ 2), (0, u "java/io/Serializable"), (0, .class_ 4), (0, u "java/lang/Object")] 2

/-- java/io/Serializable -/
def k2 : Class := { plain "java/io/Serializable" (some 0) with
  accessFlags := 1537
  interfaces := #[]
  cf := some (fileOf pool2 1 #[] #[] 1537 3 #[] #[])
  fields := #[]
  methods := #[]
  instanceTypes := #[]
  staticTypes := #[]
  resolved := Array.replicate 7 none
  statics := none }

def pool3 : Array CpInfo := pool [(1, .class_ 2), (0, u "java/lang/Comparable"), (0, .class_ 4), (0, u "java/lang/Object")] 7

/-- java/lang/Comparable -/
def k3 : Class := { plain "java/lang/Comparable" (some 0) with
  accessFlags := 1537
  interfaces := #[]
  cf := some (fileOf pool3 1 #[] #[] 1537 3 #[] #[])
  fields := #[]
  methods := #[]
  instanceTypes := #[]
  staticTypes := #[]
  resolved := Array.replicate 12 none
  statics := none }

def pool4 : Array CpInfo := pool [(2, .class_ 4), (1, u "java/lang/CharSequence"), (42, .class_ 48), (0, u "java/lang/CharSequence$1CodePointIterator"), (10, .class_ 60), (0, u "java/lang/CharSequence$1CharIterator"), (5, .class_ 67), (0, u "java/lang/Object")] 63

/-- java/lang/CharSequence -/
def k4 : Class := { plain "java/lang/CharSequence" (some 0) with
  accessFlags := 1537
  interfaces := #[]
  cf := some (fileOf pool4 2 #[.nestMembers #[47, 59]] #[] 1537 66 #[] #[])
  fields := #[]
  methods := #[]
  instanceTypes := #[]
  staticTypes := #[]
  resolved := Array.replicate 131 none
  statics := none }

def pool5 : Array CpInfo := pool [(1, .class_ 2), (0, u "java/lang/constant/Constable"), (0, .class_ 4), (0, u "java/lang/Object")] 6

/-- java/lang/constant/Constable -/
def k5 : Class := { plain "java/lang/constant/Constable" (some 0) with
  accessFlags := 1537
  interfaces := #[]
  cf := some (fileOf pool5 1 #[] #[] 1537 3 #[] #[])
  fields := #[]
  methods := #[]
  instanceTypes := #[]
  staticTypes := #[]
  resolved := Array.replicate 11 none
  statics := none }

def pool6 : Array CpInfo := pool [(1, .class_ 2), (0, u "java/lang/constant/ConstantDesc"), (0, .class_ 4), (0, u "java/lang/Object")] 32

/-- java/lang/constant/ConstantDesc -/
def k6 : Class := { plain "java/lang/constant/ConstantDesc" (some 0) with
  accessFlags := 1537
  interfaces := #[]
  cf := some (fileOf pool6 1 #[] #[] 1537 3 #[] #[])
  fields := #[]
  methods := #[]
  instanceTypes := #[]
  staticTypes := #[]
  resolved := Array.replicate 37 none
  statics := none }

def pool7 : Array CpInfo := pool [(1, .methodref 2 3), (0, .class_ 4), (0, .nameAndType 5 6), (0, u "java/lang/Object"), (0, u "<init>"), (0, u "()V"), (0, .string 8), (0, u ""), (0, .fieldref 10 11), (0, .class_ 12), (0, .nameAndType 13 14), (0, u "java/lang/String"), (0, u "value"), (0, u "[B"), (0, .fieldref 10 16), (0, .nameAndType 17 18), (0, u "coder"), (0, u "B"), (2, u "hash"), (0, u "I"), (2, u "hashIsZero"), (0, u "Z"), (0, .methodref 10 28), (0, .nameAndType 5 29), (0, u "([CIILjava/lang/Void;)V"), (8, .fieldref 10 39), (0, .nameAndType 40 26), (0, u "COMPACT_STRINGS"), (1, .class_ 44), (1, u "java/lang/StringUTF16"), (0, u "compress"), (1, .methodref 42 48), (0, .nameAndType 49 50), (0, u "coderFromArrayLen"), (0, u "([BI)B"), (56, .class_ 109), (1, u "java/lang/StringLatin1"), (67, .methodref 42 178), (0, .nameAndType 45 179), (0, u "([CII)[B"), (361, .methodref 107 542), (0, .nameAndType 543 544), (0, u "equals"), (0, u "([B[B)Z"), (28, u "(Ljava/lang/Object;)Z"), (1, .class_ 576), (0, u "java/lang/CharSequence"), (22, u "CASE_INSENSITIVE_ORDER"), (0, u "Ljava/util/Comparator;"), (409, u "([C)V"), (90, u "serialPersistentFields"), (0, u "[Ljava/io/ObjectStreamField;"), (0, .class_ 1104), (0, u "java/lang/String$CaseInsensitiveComparator"), (1, .class_ 1107), (0, u "java/io/Serializable"), (0, .class_ 1109), (0, u "java/lang/Comparable"), (0, .class_ 1111), (0, u "java/lang/constant/Constable"), (0, .class_ 1113), (0, u "java/lang/constant/ConstantDesc"), (2, u "serialVersionUID"), (0, u "J"), (3, u "REPL"), (0, u "C"), (2, u "LATIN1"), (1, u "UTF16")] 323

def k7m0 : Method := { name := "<init>", desc := "()V", sig := { parameters := [], returnType := none }, accessFlags := 1, code := none }
def k7c1 : Code := { maxStack := 5, maxLocals := 2, code := jdk_42_method_3_code, exceptionTable := #[], attributes := #[] }
def k7m1 : Method := { name := "<init>", desc := "([C)V", sig := { parameters := [(.array .char)], returnType := none }, accessFlags := 1, code := some k7c1 }
def k7c2 : Code := { maxStack := 2, maxLocals := 3, code := jdk_42_method_66_code, exceptionTable := #[], attributes := #[] }
def k7m2 : Method := { name := "equals", desc := "(Ljava/lang/Object;)Z", sig := { parameters := [(.object "java/lang/Object")], returnType := some .boolean }, accessFlags := 1, code := some k7c2 }
def k7c3 : Code := { maxStack := 4, maxLocals := 6, code := jdk_42_method_149_code, exceptionTable := #[], attributes := #[] }
def k7m3 : Method := { name := "<init>", desc := "([CIILjava/lang/Void;)V", sig := { parameters := [(.array .char), .int, .int, (.object "java/lang/Void")], returnType := none }, accessFlags := 2, code := some k7c3 }
/-- java/lang/String -/
def k7 : Class := { plain "java/lang/String" (some 0) with
  accessFlags := 49
  interfaces := #[2, 3, 4, 5, 6]
  cf := some (fileOf pool7 10 #[.nestMembers #[1103]] #[{ accessFlags := 1, nameIndex := 5, descriptorIndex := 6, attributes := #[] }, { accessFlags := 1, nameIndex := 5, descriptorIndex := 1010, attributes := #[] }, { accessFlags := 1, nameIndex := 543, descriptorIndex := 573, attributes := #[] }, { accessFlags := 2, nameIndex := 5, descriptorIndex := 29, attributes := #[] }] 49 2 #[1106, 1108, 575, 1110, 1112] #[{ accessFlags := 18, nameIndex := 13, descriptorIndex := 14, attributes := #[] }, { accessFlags := 18, nameIndex := 17, descriptorIndex := 18, attributes := #[] }, { accessFlags := 2, nameIndex := 21, descriptorIndex := 22, attributes := #[] }, { accessFlags := 2, nameIndex := 25, descriptorIndex := 26, attributes := #[] }, { accessFlags := 26, nameIndex := 1116, descriptorIndex := 1117, attributes := #[] }, { accessFlags := 24, nameIndex := 40, descriptorIndex := 26, attributes := #[] }, { accessFlags := 26, nameIndex := 1101, descriptorIndex := 1102, attributes := #[] }, { accessFlags := 26, nameIndex := 1121, descriptorIndex := 1122, attributes := #[] }, { accessFlags := 25, nameIndex := 599, descriptorIndex := 600, attributes := #[] }, { accessFlags := 24, nameIndex := 1125, descriptorIndex := 18, attributes := #[] }, { accessFlags := 24, nameIndex := 1127, descriptorIndex := 18, attributes := #[] }])
  fields := #[{ name := "value", type := (.array .byte), accessFlags := 18, slot := 0, constantValue := 0 }, { name := "coder", type := .byte, accessFlags := 18, slot := 1, constantValue := 0 }, { name := "hash", type := .int, accessFlags := 2, slot := 2, constantValue := 0 }, { name := "hashIsZero", type := .boolean, accessFlags := 2, slot := 3, constantValue := 0 }, { name := "serialVersionUID", type := .long, accessFlags := 26, slot := 0, constantValue := 0 }, { name := "COMPACT_STRINGS", type := .boolean, accessFlags := 24, slot := 1, constantValue := 0 }, { name := "serialPersistentFields", type := (.array (.object "java/io/ObjectStreamField")), accessFlags := 26, slot := 2, constantValue := 0 }, { name := "REPL", type := .char, accessFlags := 26, slot := 3, constantValue := 0 }, { name := "CASE_INSENSITIVE_ORDER", type := (.object "java/util/Comparator"), accessFlags := 25, slot := 4, constantValue := 0 }, { name := "LATIN1", type := .byte, accessFlags := 24, slot := 5, constantValue := 0 }, { name := "UTF16", type := .byte, accessFlags := 24, slot := 6, constantValue := 0 }]
  methods := #[k7m0, k7m1, k7m2, k7m3]
  instanceTypes := #[(.array .byte), .byte, .int, .boolean]
  staticTypes := #[.long, .boolean, (.array (.object "java/io/ObjectStreamField")), .char, (.object "java/util/Comparator"), .byte, .byte]
  resolved := Array.replicate 1451 none
  statics := some 0 }

def pool8 : Array CpInfo := pool [(2, .class_ 4), (1, u "java/lang/Enum"), (0, u "name"), (0, u "Ljava/lang/String;"), (2, u "ordinal"), (0, u "I"), (1, .class_ 14), (1, u "java/lang/Object"), (4, u "hash"), (86, .class_ 108), (1, u "java/lang/Enum$EnumDesc"), (2, .class_ 112), (0, u "java/lang/constant/Constable"), (0, .class_ 114), (0, u "java/lang/Comparable"), (0, .class_ 116), (0, u "java/io/Serializable")] 87

/-- java/lang/Enum -/
def k8 : Class := { plain "java/lang/Enum" (some 0) with
  accessFlags := 1057
  interfaces := #[5, 3, 2]
  cf := some (fileOf pool8 2 #[.nestMembers #[106]] #[] 1057 12 #[111, 113, 115] #[{ accessFlags := 18, nameIndex := 5, descriptorIndex := 6, attributes := #[] }, { accessFlags := 18, nameIndex := 9, descriptorIndex := 10, attributes := #[] }, { accessFlags := 2, nameIndex := 19, descriptorIndex := 10, attributes := #[] }])
  fields := #[{ name := "name", type := (.object "java/lang/String"), accessFlags := 18, slot := 0, constantValue := 0 }, { name := "ordinal", type := .int, accessFlags := 18, slot := 1, constantValue := 0 }, { name := "hash", type := .int, accessFlags := 2, slot := 2, constantValue := 0 }]
  methods := #[]
  instanceTypes := #[(.object "java/lang/String"), .int, .int]
  staticTypes := #[]
  resolved := Array.replicate 204 none
  statics := none }

def pool9 : Array CpInfo := pool [(1, .class_ 2), (0, u "com/example/lakeledger/lakeledger/Filter$Operator"), (2, u "EQ"), (0, u "Lcom/example/lakeledger/lakeledger/Filter$Operator;"), (2, u "NE"), (2, u "LT"), (2, u "LE"), (2, u "GT"), (2, u "GE"), (0, .fieldref 1 23), (0, .nameAndType 24 25), (0, u "$VALUES"), (0, u "[Lcom/example/lakeledger/lakeledger/Filter$Operator;"), (0, .methodref 27 28), (0, .class_ 25), (0, .nameAndType 29 30), (0, u "clone"), (0, u "()Ljava/lang/Object;"), (1, .class_ 34), (1, u "java/lang/Enum"), (6, .fieldref 1 42), (0, .nameAndType 43 44), (0, u "symbol"), (0, u "Ljava/lang/String;"), (0, .methodref 1 46), (0, .nameAndType 47 48), (0, u "values"), (0, u "()[Lcom/example/lakeledger/lakeledger/Filter$Operator;"), (0, .methodref 50 51), (0, .class_ 52), (0, .nameAndType 53 54), (0, u "java/lang/String"), (0, u "equals"), (0, u "(Ljava/lang/Object;)Z"), (26, u "(Ljava/lang/String;)Lcom/example/lakeledger/lakeledger/Filter$Operator;"), (3, u "of"), (9, .class_ 96), (0, u "com/example/lakeledger/lakeledger/Filter")] 2

def k9c0 : Code := { maxStack := 1, maxLocals := 0, code := prog_21_method_1_code, exceptionTable := #[], attributes := #[] }
def k9m0 : Method := { name := "values", desc := "()[Lcom/example/lakeledger/lakeledger/Filter$Operator;", sig := { parameters := [], returnType := some (.array (.object "com/example/lakeledger/lakeledger/Filter$Operator")) }, accessFlags := 9, code := some k9c0 }
def k9c1 : Code := { maxStack := 2, maxLocals := 5, code := prog_21_method_4_code, exceptionTable := #[], attributes := #[] }
def k9m1 : Method := { name := "of", desc := "(Ljava/lang/String;)Lcom/example/lakeledger/lakeledger/Filter$Operator;", sig := { parameters := [(.object "java/lang/String")], returnType := some (.object "com/example/lakeledger/lakeledger/Filter$Operator") }, accessFlags := 8, code := some k9c1 }
/-- com/example/lakeledger/lakeledger/Filter$Operator -/
def k9 : Class := { plain "com/example/lakeledger/lakeledger/Filter$Operator" (some 8) with
  accessFlags := 16432
  interfaces := #[]
  cf := some (fileOf pool9 1 #[.nestHost 95] #[{ accessFlags := 9, nameIndex := 47, descriptorIndex := 48, attributes := #[] }, { accessFlags := 8, nameIndex := 85, descriptorIndex := 81, attributes := #[] }] 16432 32 #[] #[{ accessFlags := 16409, nameIndex := 5, descriptorIndex := 6, attributes := #[] }, { accessFlags := 16409, nameIndex := 9, descriptorIndex := 6, attributes := #[] }, { accessFlags := 16409, nameIndex := 12, descriptorIndex := 6, attributes := #[] }, { accessFlags := 16409, nameIndex := 15, descriptorIndex := 6, attributes := #[] }, { accessFlags := 16409, nameIndex := 18, descriptorIndex := 6, attributes := #[] }, { accessFlags := 16409, nameIndex := 21, descriptorIndex := 6, attributes := #[] }, { accessFlags := 18, nameIndex := 43, descriptorIndex := 44, attributes := #[] }, { accessFlags := 4122, nameIndex := 24, descriptorIndex := 25, attributes := #[] }])
  fields := #[{ name := "EQ", type := (.object "com/example/lakeledger/lakeledger/Filter$Operator"), accessFlags := 16409, slot := 0, constantValue := 0 }, { name := "NE", type := (.object "com/example/lakeledger/lakeledger/Filter$Operator"), accessFlags := 16409, slot := 1, constantValue := 0 }, { name := "LT", type := (.object "com/example/lakeledger/lakeledger/Filter$Operator"), accessFlags := 16409, slot := 2, constantValue := 0 }, { name := "LE", type := (.object "com/example/lakeledger/lakeledger/Filter$Operator"), accessFlags := 16409, slot := 3, constantValue := 0 }, { name := "GT", type := (.object "com/example/lakeledger/lakeledger/Filter$Operator"), accessFlags := 16409, slot := 4, constantValue := 0 }, { name := "GE", type := (.object "com/example/lakeledger/lakeledger/Filter$Operator"), accessFlags := 16409, slot := 5, constantValue := 0 }, { name := "symbol", type := (.object "java/lang/String"), accessFlags := 18, slot := 3, constantValue := 0 }, { name := "$VALUES", type := (.array (.object "com/example/lakeledger/lakeledger/Filter$Operator")), accessFlags := 4122, slot := 6, constantValue := 0 }]
  methods := #[k9m0, k9m1]
  instanceTypes := #[(.object "java/lang/String"), .int, .int, (.object "java/lang/String")]
  staticTypes := #[(.object "com/example/lakeledger/lakeledger/Filter$Operator"), (.object "com/example/lakeledger/lakeledger/Filter$Operator"), (.object "com/example/lakeledger/lakeledger/Filter$Operator"), (.object "com/example/lakeledger/lakeledger/Filter$Operator"), (.object "com/example/lakeledger/lakeledger/Filter$Operator"), (.object "com/example/lakeledger/lakeledger/Filter$Operator"), (.array (.object "com/example/lakeledger/lakeledger/Filter$Operator"))]
  resolved := Array.replicate 99 none
  statics := some 1 }

def pool10 : Array CpInfo := pool [(1, .class_ 2), (0, u "java/lang/Cloneable"), (0, .class_ 4), (0, u "java/lang/Object")] 2

/-- java/lang/Cloneable -/
def k10 : Class := { plain "java/lang/Cloneable" (some 0) with
  accessFlags := 1537
  interfaces := #[]
  cf := some (fileOf pool10 1 #[] #[] 1537 3 #[] #[])
  fields := #[]
  methods := #[]
  instanceTypes := #[]
  staticTypes := #[]
  resolved := Array.replicate 7 none
  statics := none }

def pool11 : Array CpInfo := pool [(4, .class_ 6), (1, u "java/lang/Object"), (0, u "<init>"), (0, u "()V"), (5, .class_ 16), (1, u "java/lang/StringLatin1"), (104, u "$assertionsDisabled"), (0, u "Z"), (98, .class_ 223), (1, u "java/lang/StringLatin1$LinesSpliterator"), (57, u "equals"), (0, u "([B[B)Z"), (107, .class_ 391), (0, u "java/lang/StringLatin1$CharsSpliterator")] 3

def k11m0 : Method := { name := "<init>", desc := "()V", sig := { parameters := [], returnType := none }, accessFlags := 0, code := none }
def k11c1 : Code := { maxStack := 3, maxLocals := 3, code := jdk_43_method_13_code, exceptionTable := #[], attributes := #[] }
def k11m1 : Method := { name := "equals", desc := "([B[B)Z", sig := { parameters := [(.array .byte), (.array .byte)], returnType := some .boolean }, accessFlags := 9, code := some k11c1 }
/-- java/lang/StringLatin1 -/
def k11 : Class := { plain "java/lang/StringLatin1" (some 0) with
  accessFlags := 48
  interfaces := #[]
  cf := some (fileOf pool11 14 #[.nestMembers #[390, 221]] #[{ accessFlags := 0, nameIndex := 7, descriptorIndex := 8, attributes := #[] }, { accessFlags := 9, nameIndex := 281, descriptorIndex := 282, attributes := #[] }] 48 4 #[] #[{ accessFlags := 4120, nameIndex := 121, descriptorIndex := 122, attributes := #[] }])
  fields := #[{ name := "$assertionsDisabled", type := .boolean, accessFlags := 4120, slot := 0, constantValue := 0 }]
  methods := #[k11m0, k11m1]
  instanceTypes := #[]
  staticTypes := #[.boolean]
  resolved := Array.replicate 395 none
  statics := none }

def pool12 : Array CpInfo := pool [(6, .class_ 8), (1, u "java/lang/Object"), (0, u "<init>"), (0, u "()V"), (1, .class_ 14), (1, u "java/lang/StringUTF16"), (31, u "$assertionsDisabled"), (0, u "Z"), (13, u "HI_BYTE_SHIFT"), (0, u "I"), (2, u "LO_BYTE_SHIFT"), (49, .methodref 12 116), (0, .nameAndType 117 118), (0, u "compress"), (0, u "([CI[BII)I"), (3, u "([CII)[B"), (138, u "coderFromArrayLen"), (0, u "([BI)B"), (106, .class_ 371), (1, u "java/lang/StringUTF16$LinesSpliterator"), (58, u "MAX_LENGTH"), (196, .class_ 628), (0, u "java/lang/StringUTF16$CodePointsSpliterator"), (0, .class_ 630), (0, u "java/lang/StringUTF16$CharsSpliterator")] 4

def k12m0 : Method := { name := "<init>", desc := "()V", sig := { parameters := [], returnType := none }, accessFlags := 0, code := none }
def k12c1 : Code := { maxStack := 2, maxLocals := 2, code := jdk_52_method_15_code, exceptionTable := #[], attributes := #[] }
def k12m1 : Method := { name := "coderFromArrayLen", desc := "([BI)B", sig := { parameters := [(.array .byte), .int], returnType := some .byte }, accessFlags := 8, code := some k12c1 }
def k12c2 : Code := { maxStack := 5, maxLocals := 6, code := jdk_52_method_16_code, exceptionTable := #[], attributes := #[] }
def k12m2 : Method := { name := "compress", desc := "([CII)[B", sig := { parameters := [(.array .char), .int, .int], returnType := some (.array .byte) }, accessFlags := 9, code := some k12c2 }
def k12c3 : Code := { maxStack := 3, maxLocals := 7, code := jdk_52_method_21_code, exceptionTable := #[], attributes := #[] }
def k12m3 : Method := { name := "compress", desc := "([CI[BII)I", sig := { parameters := [(.array .char), .int, (.array .byte), .int, .int], returnType := some .int }, accessFlags := 9, code := some k12c3 }
/-- java/lang/StringUTF16 -/
def k12 : Class := { plain "java/lang/StringUTF16" (some 0) with
  accessFlags := 48
  interfaces := #[]
  cf := some (fileOf pool12 12 #[.nestMembers #[627, 629, 369]] #[{ accessFlags := 0, nameIndex := 9, descriptorIndex := 10, attributes := #[] }, { accessFlags := 8, nameIndex := 261, descriptorIndex := 262, attributes := #[] }, { accessFlags := 9, nameIndex := 117, descriptorIndex := 122, attributes := #[] }, { accessFlags := 9, nameIndex := 117, descriptorIndex := 118, attributes := #[] }] 48 6 #[] #[{ accessFlags := 26, nameIndex := 61, descriptorIndex := 62, attributes := #[] }, { accessFlags := 26, nameIndex := 65, descriptorIndex := 62, attributes := #[] }, { accessFlags := 24, nameIndex := 430, descriptorIndex := 62, attributes := #[] }, { accessFlags := 4120, nameIndex := 46, descriptorIndex := 47, attributes := #[] }])
  fields := #[{ name := "HI_BYTE_SHIFT", type := .int, accessFlags := 26, slot := 0, constantValue := 0 }, { name := "LO_BYTE_SHIFT", type := .int, accessFlags := 26, slot := 1, constantValue := 0 }, { name := "MAX_LENGTH", type := .int, accessFlags := 24, slot := 2, constantValue := 0 }, { name := "$assertionsDisabled", type := .boolean, accessFlags := 4120, slot := 3, constantValue := 0 }]
  methods := #[k12m0, k12m1, k12m2, k12m3]
  instanceTypes := #[]
  staticTypes := #[.int, .int, .int, .boolean]
  resolved := Array.replicate 635 none
  statics := none }

def pool13 : Array CpInfo := pool [(2, .class_ 4), (1, u "java/lang/Object"), (0, u "<init>"), (0, u "()V"), (17, .class_ 26), (1, u "jdk/internal/util/Preconditions"), (28, .class_ 56), (0, u "jdk/internal/util/Preconditions$4"), (57, .class_ 115), (0, u "jdk/internal/util/Preconditions$1"), (7, u "SIOOBE_FORMATTER"), (0, u "Ljava/util/function/BiFunction;"), (0, .class_ 126), (0, u "jdk/internal/util/Preconditions$2"), (3, u "AIOOBE_FORMATTER"), (0, .class_ 132), (0, u "jdk/internal/util/Preconditions$3"), (3, u "IOOBE_FORMATTER")] 57

def k13m0 : Method := { name := "<init>", desc := "()V", sig := { parameters := [], returnType := none }, accessFlags := 1, code := none }
/-- jdk/internal/util/Preconditions -/
def k13 : Class := { plain "jdk/internal/util/Preconditions" (some 0) with
  accessFlags := 33
  interfaces := #[]
  cf := some (fileOf pool13 24 #[.nestMembers #[55, 131, 125, 114]] #[{ accessFlags := 1, nameIndex := 5, descriptorIndex := 6, attributes := #[] }] 33 2 #[] #[{ accessFlags := 25, nameIndex := 123, descriptorIndex := 124, attributes := #[] }, { accessFlags := 25, nameIndex := 130, descriptorIndex := 124, attributes := #[] }, { accessFlags := 25, nameIndex := 136, descriptorIndex := 124, attributes := #[] }])
  fields := #[{ name := "SIOOBE_FORMATTER", type := (.object "java/util/function/BiFunction"), accessFlags := 25, slot := 0, constantValue := 0 }, { name := "AIOOBE_FORMATTER", type := (.object "java/util/function/BiFunction"), accessFlags := 25, slot := 1, constantValue := 0 }, { name := "IOOBE_FORMATTER", type := (.object "java/util/function/BiFunction"), accessFlags := 25, slot := 2, constantValue := 0 }]
  methods := #[k13m0]
  instanceTypes := #[]
  staticTypes := #[(.object "java/util/function/BiFunction"), (.object "java/util/function/BiFunction"), (.object "java/util/function/BiFunction")]
  resolved := Array.replicate 194 none
  statics := some 2 }

def pool14 : Array CpInfo := pool [(9, u "<init>"), (6, .class_ 18), (1, u "java/lang/Object"), (0, u "()V"), (1, .class_ 23), (1, u "jdk/internal/util/ArraysSupport"), (0, u "LOG2_ARRAY_LONG_INDEX_SCALE"), (0, u "I"), (2, u "U"), (0, u "Ljdk/internal/misc/Unsafe;"), (8, u "BIG_ENDIAN"), (0, u "Z"), (8, u "LOG2_BYTE_BIT_SIZE"), (4, u "LOG2_ARRAY_INT_INDEX_SCALE"), (54, u "JLA"), (0, u "Ljdk/internal/access/JavaLangAccess;"), (11, u "LOG2_ARRAY_BOOLEAN_INDEX_SCALE"), (9, u "LOG2_ARRAY_BYTE_INDEX_SCALE"), (5, u "LOG2_ARRAY_CHAR_INDEX_SCALE"), (5, u "LOG2_ARRAY_SHORT_INDEX_SCALE"), (18, u "LOG2_ARRAY_FLOAT_INDEX_SCALE"), (24, u "LOG2_ARRAY_DOUBLE_INDEX_SCALE"), (89, u "T_BOOLEAN"), (2, u "T_CHAR"), (1, u "T_FLOAT"), (1, u "T_DOUBLE"), (1, u "T_BYTE"), (1, u "T_SHORT"), (1, u "T_INT"), (1, u "T_LONG"), (1, u "SOFT_MAX_ARRAY_LENGTH")] 83

def k14m0 : Method := { name := "<init>", desc := "()V", sig := { parameters := [], returnType := none }, accessFlags := 2, code := none }
/-- jdk/internal/util/ArraysSupport -/
def k14 : Class := { plain "jdk/internal/util/ArraysSupport" (some 0) with
  accessFlags := 33
  interfaces := #[]
  cf := some (fileOf pool14 21 #[] #[{ accessFlags := 2, nameIndex := 9, descriptorIndex := 19, attributes := #[] }] 33 16 #[] #[{ accessFlags := 24, nameIndex := 28, descriptorIndex := 29, attributes := #[] }, { accessFlags := 26, nameIndex := 38, descriptorIndex := 39, attributes := #[] }, { accessFlags := 25, nameIndex := 121, descriptorIndex := 25, attributes := #[] }, { accessFlags := 25, nameIndex := 131, descriptorIndex := 25, attributes := #[] }, { accessFlags := 25, nameIndex := 137, descriptorIndex := 25, attributes := #[] }, { accessFlags := 25, nameIndex := 143, descriptorIndex := 25, attributes := #[] }, { accessFlags := 25, nameIndex := 53, descriptorIndex := 25, attributes := #[] }, { accessFlags := 25, nameIndex := 24, descriptorIndex := 25, attributes := #[] }, { accessFlags := 25, nameIndex := 162, descriptorIndex := 25, attributes := #[] }, { accessFlags := 25, nameIndex := 187, descriptorIndex := 25, attributes := #[] }, { accessFlags := 26, nameIndex := 48, descriptorIndex := 25, attributes := #[] }, { accessFlags := 25, nameIndex := 277, descriptorIndex := 25, attributes := #[] }, { accessFlags := 25, nameIndex := 280, descriptorIndex := 25, attributes := #[] }, { accessFlags := 25, nameIndex := 282, descriptorIndex := 25, attributes := #[] }, { accessFlags := 25, nameIndex := 284, descriptorIndex := 25, attributes := #[] }, { accessFlags := 25, nameIndex := 286, descriptorIndex := 25, attributes := #[] }, { accessFlags := 25, nameIndex := 288, descriptorIndex := 25, attributes := #[] }, { accessFlags := 25, nameIndex := 290, descriptorIndex := 25, attributes := #[] }, { accessFlags := 25, nameIndex := 292, descriptorIndex := 25, attributes := #[] }, { accessFlags := 26, nameIndex := 108, descriptorIndex := 109, attributes := #[] }, { accessFlags := 25, nameIndex := 294, descriptorIndex := 25, attributes := #[] }])
  fields := #[{ name := "U", type := (.object "jdk/internal/misc/Unsafe"), accessFlags := 24, slot := 0, constantValue := 0 }, { name := "BIG_ENDIAN", type := .boolean, accessFlags := 26, slot := 1, constantValue := 0 }, { name := "LOG2_ARRAY_BOOLEAN_INDEX_SCALE", type := .int, accessFlags := 25, slot := 2, constantValue := 0 }, { name := "LOG2_ARRAY_BYTE_INDEX_SCALE", type := .int, accessFlags := 25, slot := 3, constantValue := 0 }, { name := "LOG2_ARRAY_CHAR_INDEX_SCALE", type := .int, accessFlags := 25, slot := 4, constantValue := 0 }, { name := "LOG2_ARRAY_SHORT_INDEX_SCALE", type := .int, accessFlags := 25, slot := 5, constantValue := 0 }, { name := "LOG2_ARRAY_INT_INDEX_SCALE", type := .int, accessFlags := 25, slot := 6, constantValue := 0 }, { name := "LOG2_ARRAY_LONG_INDEX_SCALE", type := .int, accessFlags := 25, slot := 7, constantValue := 0 }, { name := "LOG2_ARRAY_FLOAT_INDEX_SCALE", type := .int, accessFlags := 25, slot := 8, constantValue := 0 }, { name := "LOG2_ARRAY_DOUBLE_INDEX_SCALE", type := .int, accessFlags := 25, slot := 9, constantValue := 0 }, { name := "LOG2_BYTE_BIT_SIZE", type := .int, accessFlags := 26, slot := 10, constantValue := 0 }, { name := "T_BOOLEAN", type := .int, accessFlags := 25, slot := 11, constantValue := 0 }, { name := "T_CHAR", type := .int, accessFlags := 25, slot := 12, constantValue := 0 }, { name := "T_FLOAT", type := .int, accessFlags := 25, slot := 13, constantValue := 0 }, { name := "T_DOUBLE", type := .int, accessFlags := 25, slot := 14, constantValue := 0 }, { name := "T_BYTE", type := .int, accessFlags := 25, slot := 15, constantValue := 0 }, { name := "T_SHORT", type := .int, accessFlags := 25, slot := 16, constantValue := 0 }, { name := "T_INT", type := .int, accessFlags := 25, slot := 17, constantValue := 0 }, { name := "T_LONG", type := .int, accessFlags := 25, slot := 18, constantValue := 0 }, { name := "JLA", type := (.object "jdk/internal/access/JavaLangAccess"), accessFlags := 26, slot := 19, constantValue := 0 }, { name := "SOFT_MAX_ARRAY_LENGTH", type := .int, accessFlags := 25, slot := 20, constantValue := 0 }]
  methods := #[k14m0]
  instanceTypes := #[]
  staticTypes := #[(.object "jdk/internal/misc/Unsafe"), .boolean, .int, .int, .int, .int, .int, .int, .int, .int, .int, .int, .int, .int, .int, .int, .int, .int, .int, (.object "jdk/internal/access/JavaLangAccess"), .int]
  resolved := Array.replicate 378 none
  statics := none }

/-- the primitive byte -/
def k15 : Class := { plain "byte" none with kind := .primitive 'B', accessFlags := 0x411 }
/-- [B -/
def k16 : Class := { plain "[B" (some 0) with kind := .array 15 .byte, interfaces := #[10, 2], accessFlags := 1041 }

/-- the primitive char -/
def k17 : Class := { plain "char" none with kind := .primitive 'C', accessFlags := 0x411 }
/-- [C -/
def k18 : Class := { plain "[C" (some 0) with kind := .array 17 .char, interfaces := #[10, 2], accessFlags := 1041 }

/-- the primitive int -/
def k19 : Class := { plain "int" none with kind := .primitive 'I', accessFlags := 0x411 }
/-- [I -/
def k20 : Class := { plain "[I" (some 0) with kind := .array 19 .int, interfaces := #[10, 2], accessFlags := 1041 }

/-- [Lcom/example/lakeledger/lakeledger/Filter$Operator; -/
def k21 : Class := { plain "[Lcom/example/lakeledger/lakeledger/Filter$Operator;" (some 0) with kind := .array 9 (.object "com/example/lakeledger/lakeledger/Filter$Operator"), interfaces := #[10, 2], accessFlags := 1041 }

def heap : Heap := #[{ cls := 7, slots := #[.long 0, .int 1, .null, .int 0, .null, .int 0, .int 0], vm := .statics 7 },
  { cls := 9, slots := #[.ref 4, .ref 5, .ref 6, .ref 7, .ref 8, .ref 9, .ref 3], vm := .statics 9 },
  { cls := 13, slots := #[.null, .null, .null], vm := .statics 13 },
  { cls := 21, slots := #[.ref 4, .ref 5, .ref 6, .ref 7, .ref 8, .ref 9], vm := .none },
  { cls := 9, slots := #[.null, .int 0, .int 0, .ref 10], vm := .none },
  { cls := 9, slots := #[.null, .int 1, .int 0, .ref 11], vm := .none },
  { cls := 9, slots := #[.null, .int 2, .int 0, .ref 12], vm := .none },
  { cls := 9, slots := #[.null, .int 3, .int 0, .ref 13], vm := .none },
  { cls := 9, slots := #[.null, .int 4, .int 0, .ref 14], vm := .none },
  { cls := 9, slots := #[.null, .int 5, .int 0, .ref 15], vm := .none },
  { cls := 7, slots := #[.ref 16, .int 0, .int 0, .int 0], vm := .none },
  { cls := 7, slots := #[.ref 17, .int 0, .int 0, .int 0], vm := .none },
  { cls := 7, slots := #[.ref 18, .int 0, .int 0, .int 0], vm := .none },
  { cls := 7, slots := #[.ref 19, .int 0, .int 0, .int 0], vm := .none },
  { cls := 7, slots := #[.ref 20, .int 0, .int 0, .int 0], vm := .none },
  { cls := 7, slots := #[.ref 21, .int 0, .int 0, .int 0], vm := .none },
  { cls := 16, slots := #[.int 61], vm := .none },
  { cls := 16, slots := #[.int 33, .int 61], vm := .none },
  { cls := 16, slots := #[.int 60], vm := .none },
  { cls := 16, slots := #[.int 60, .int 61], vm := .none },
  { cls := 16, slots := #[.int 62], vm := .none },
  { cls := 16, slots := #[.int 62, .int 61], vm := .none }]
def classes : Array Class := #[k0, k1, k2, k3, k4, k5, k6, k7, k8, k9, k10, k11, k12, k13, k14, k15, k16, k17, k18, k19, k20, k21]
def interned : List (Array UInt16 × Addr) := []
def slotsUsed : Nat := 80
def theMethod : MethodId := ⟨1, 3⟩
def args0 : Array Value := #[.int 2, .int 260, .int 256, .int 7]
def aboutOver (below : List Frame) : State where
  vm := { classes := classes, interned := interned.toArray }
  heap := heap
  slotsUsed := slotsUsed
  threads := #[{ frames := .invoking theMethod args0 :: below }]
def below0 : List Frame := [.native { method := ⟨0, 0⟩, args := #[] }]
def about1 : State := aboutOver below0
def p0 : Program := .bare "" "" ""
def e0 : Env := launch0.env 0 0 0
theorem w_frames : about1.frames = Frame.invoking theMethod args0 :: below0 := rfl
set_option maxRecDepth 65536 in
theorem w_args : argsFit about1.vm theMethod args0 = true := by decide +kernel
set_option maxRecDepth 65536 in
theorem w_heap : heapFits about1 = true := by decide +kernel
set_option maxRecDepth 65536 in
theorem w_runnable : about1.curStatus? = some .runnable := by decide +kernel
set_option maxRecDepth 65536 in
theorem w_alone : about1.alone = true := by decide +kernel
set_option maxRecDepth 65536 in
theorem w_named : about1.methodNamed? x = some theMethod := by decide +kernel
set_option maxRecDepth 65536 in
theorem w_hears : about1.hears theMethod below0 = true := by decide +kernel
set_option maxRecDepth 65536 in
theorem w_ripe : about1.ripe theMethod args0 below0 = true := by decide +kernel
theorem w_running : about1.status = .running := rfl
set_option maxRecDepth 65536 in
theorem w_room : about1.hasRoom e0.platform room_1 = true :=
  launch0.hasRoom_least _ room_1 (by decide +kernel) (by decide +kernel) (by decide +kernel) (by decide +kernel) (by decide +kernel) (by decide +kernel)
theorem allAtoms_all (ts : List Jvm.Cond) (a : Array Jvm.Value) (st : Jvm.State) : (allAtoms ts).before a st = ts.all (fun c => c.before a st) := by
  induction ts with
  | nil => rfl
  | cons c t ih =>
    show (Jvm.Cond.and c (allAtoms t)).before a st = _
    rw [Jvm.Cond.before_and, ih, List.all_cons]
def words1 : List Jvm.Cond := Jvm.Cond.code x code maxLocals ret :: tables_1
/-- a 'code' word, met by the world's own term for the bytes: nothing is compared byte by byte -/
theorem code_word {y : MethodName} {bytes : ByteArray} {mx : Nat} {rt : Option FieldType} {a : Array Value} {s : State} {m : MethodId} {meth : Method} {c : Code} (h1 : s.methodNamed? y = some m) (h2 : s.vm.method? m = some meth) (h3 : meth.code = some c) (h4 : c.code = bytes)
    (h5 : (c.maxLocals == mx && c.exceptionTable.isEmpty && decide (c.maxStack ≤ mostOperands) && decide (meth.sig.returnType = rt) && !meth.locks && decide (parseMethodDescriptor y.desc = some meth.sig)) = true) : (Jvm.Cond.code y bytes mx rt).before a s = true := by
  simp only [Bool.and_eq_true, beq_iff_eq, Bool.not_eq_true', decide_eq_true_eq] at h5
  obtain ⟨⟨⟨⟨⟨g1, g2⟩, g3⟩, g4⟩, g5⟩, g6⟩ := h5
  simp [Cond.before, Cond.holds, Cond.value, h1, h2, h3, h4, g1, g2, g3, g4, g5, g6]
def isCode : Jvm.Cond → Bool
  | .code _ _ _ _ => true
  | _ => false
theorem all_split {L : List Jvm.Cond} {P : Jvm.Cond → Bool} (h1 : L.all (fun c => isCode c || P c) = true) (h2 : ∀ c ∈ L.filter isCode, P c = true) : L.all P = true := by
  refine List.all_eq_true.mpr fun c hc => ?_
  have h := List.all_eq_true.mp h1 c hc
  rcases Bool.eq_false_or_eq_true (isCode c) with hi | hi
  · exact h2 c (List.mem_filter.mpr ⟨hc, hi⟩)
  · simpa [hi] using h
set_option maxRecDepth 65536 in
theorem w_c0 : (Jvm.Cond.code x code maxLocals ret).before args0 about1 = true := code_word (m := ⟨1, 3⟩) (meth := k1m3) (c := k1c3) (by decide +kernel) rfl rfl rfl (by decide +kernel)
set_option maxRecDepth 65536 in
theorem w_c1 : (Jvm.Cond.code ({ cls := "com/example/lakeledger/lakeledger/OperatorOfPinLaw", name := "draw", desc := "(I)C" } : Jvm.MethodName) method_2_code (2 : Nat) (Option.some Jvm.ClassFile.FieldType.char)).before args0 about1 = true := code_word (m := ⟨1, 1⟩) (meth := k1m1) (c := k1c1) (by decide +kernel) rfl rfl rfl (by decide +kernel)
set_option maxRecDepth 65536 in
theorem w_c2 : (Jvm.Cond.code ({ cls := "java/lang/String", name := "<init>", desc := "([C)V" } : Jvm.MethodName) jdk_42_method_3_code (2 : Nat) (Option.none : Option Jvm.ClassFile.FieldType)).before args0 about1 = true := code_word (m := ⟨7, 1⟩) (meth := k7m1) (c := k7c1) (by decide +kernel) rfl rfl rfl (by decide +kernel)
set_option maxRecDepth 65536 in
theorem w_c3 : (Jvm.Cond.code ({ cls := "java/lang/String", name := "<init>", desc := "([CIILjava/lang/Void;)V" } : Jvm.MethodName) jdk_42_method_149_code (6 : Nat) (Option.none : Option Jvm.ClassFile.FieldType)).before args0 about1 = true := code_word (m := ⟨7, 3⟩) (meth := k7m3) (c := k7c3) (by decide +kernel) rfl rfl rfl (by decide +kernel)
set_option maxRecDepth 65536 in
theorem w_c4 : (Jvm.Cond.code ({ cls := "java/lang/Object", name := "<init>", desc := "()V" } : Jvm.MethodName) object_method_1_code (1 : Nat) (Option.none : Option Jvm.ClassFile.FieldType)).before args0 about1 = true := code_word (m := ⟨0, 0⟩) (meth := k0m0) (c := k0c0) (by decide +kernel) rfl rfl rfl (by decide +kernel)
set_option maxRecDepth 65536 in
theorem w_c5 : (Jvm.Cond.code ({ cls := "com/example/lakeledger/lakeledger/Filter$Operator", name := "of", desc := "(Ljava/lang/String;)Lcom/example/lakeledger/lakeledger/Filter$Operator;" } : Jvm.MethodName) prog_21_method_4_code (5 : Nat) (Option.some (Jvm.ClassFile.FieldType.object "com/example/lakeledger/lakeledger/Filter$Operator"))).before args0 about1 = true := code_word (m := ⟨9, 1⟩) (meth := k9m1) (c := k9c1) (by decide +kernel) rfl rfl rfl (by decide +kernel)
set_option maxRecDepth 65536 in
theorem w_c6 : (Jvm.Cond.code ({ cls := "com/example/lakeledger/lakeledger/Filter$Operator", name := "values", desc := "()[Lcom/example/lakeledger/lakeledger/Filter$Operator;" } : Jvm.MethodName) prog_21_method_1_code (0 : Nat) (Option.some (Jvm.ClassFile.FieldType.array (Jvm.ClassFile.FieldType.object "com/example/lakeledger/lakeledger/Filter$Operator")))).before args0 about1 = true := code_word (m := ⟨9, 0⟩) (meth := k9m0) (c := k9c0) (by decide +kernel) rfl rfl rfl (by decide +kernel)
set_option maxRecDepth 65536 in
theorem w_c7 : (Jvm.Cond.code ({ cls := "java/lang/String", name := "equals", desc := "(Ljava/lang/Object;)Z" } : Jvm.MethodName) jdk_42_method_66_code (3 : Nat) (Option.some Jvm.ClassFile.FieldType.boolean)).before args0 about1 = true := code_word (m := ⟨7, 2⟩) (meth := k7m2) (c := k7c2) (by decide +kernel) rfl rfl rfl (by decide +kernel)
set_option maxRecDepth 65536 in
theorem w_c8 : (Jvm.Cond.code ({ cls := "java/lang/StringLatin1", name := "equals", desc := "([B[B)Z" } : Jvm.MethodName) jdk_43_method_13_code (3 : Nat) (Option.some Jvm.ClassFile.FieldType.boolean)).before args0 about1 = true := code_word (m := ⟨11, 1⟩) (meth := k11m1) (c := k11c1) (by decide +kernel) rfl rfl rfl (by decide +kernel)
set_option maxRecDepth 65536 in
theorem w_c9 : (Jvm.Cond.code ({ cls := "com/example/lakeledger/lakeledger/OperatorOfPinLaw", name := "expected", desc := "(ICC)Lcom/example/lakeledger/lakeledger/Filter$Operator;" } : Jvm.MethodName) method_3_code (3 : Nat) (Option.some (Jvm.ClassFile.FieldType.object "com/example/lakeledger/lakeledger/Filter$Operator"))).before args0 about1 = true := code_word (m := ⟨1, 2⟩) (meth := k1m2) (c := k1c2) (by decide +kernel) rfl rfl rfl (by decide +kernel)
set_option maxRecDepth 65536 in
theorem w_c10 : (Jvm.Cond.code ({ cls := "java/lang/StringUTF16", name := "compress", desc := "([CII)[B" } : Jvm.MethodName) jdk_52_method_16_code (6 : Nat) (Option.some (Jvm.ClassFile.FieldType.array Jvm.ClassFile.FieldType.byte))).before args0 about1 = true := code_word (m := ⟨12, 2⟩) (meth := k12m2) (c := k12c2) (by decide +kernel) rfl rfl rfl (by decide +kernel)
set_option maxRecDepth 65536 in
theorem w_c11 : (Jvm.Cond.code ({ cls := "java/lang/StringUTF16", name := "compress", desc := "([CI[BII)I" } : Jvm.MethodName) jdk_52_method_21_code (7 : Nat) (Option.some Jvm.ClassFile.FieldType.int)).before args0 about1 = true := code_word (m := ⟨12, 3⟩) (meth := k12m3) (c := k12c3) (by decide +kernel) rfl rfl rfl (by decide +kernel)
set_option maxRecDepth 65536 in
theorem w_c12 : (Jvm.Cond.code ({ cls := "java/lang/StringUTF16", name := "coderFromArrayLen", desc := "([BI)B" } : Jvm.MethodName) jdk_52_method_15_code (2 : Nat) (Option.some Jvm.ClassFile.FieldType.byte)).before args0 about1 = true := code_word (m := ⟨12, 1⟩) (meth := k12m1) (c := k12c1) (by decide +kernel) rfl rfl rfl (by decide +kernel)
def codes1 : List Jvm.Cond := [Jvm.Cond.code x code maxLocals ret, Jvm.Cond.code ({ cls := "com/example/lakeledger/lakeledger/OperatorOfPinLaw", name := "draw", desc := "(I)C" } : Jvm.MethodName) method_2_code (2 : Nat) (Option.some Jvm.ClassFile.FieldType.char), Jvm.Cond.code ({ cls := "java/lang/String", name := "<init>", desc := "([C)V" } : Jvm.MethodName) jdk_42_method_3_code (2 : Nat) (Option.none : Option Jvm.ClassFile.FieldType), Jvm.Cond.code ({ cls := "java/lang/String", name := "<init>", desc := "([CIILjava/lang/Void;)V" } : Jvm.MethodName) jdk_42_method_149_code (6 : Nat) (Option.none : Option Jvm.ClassFile.FieldType), Jvm.Cond.code ({ cls := "java/lang/Object", name := "<init>", desc := "()V" } : Jvm.MethodName) object_method_1_code (1 : Nat) (Option.none : Option Jvm.ClassFile.FieldType), Jvm.Cond.code ({ cls := "com/example/lakeledger/lakeledger/Filter$Operator", name := "of", desc := "(Ljava/lang/String;)Lcom/example/lakeledger/lakeledger/Filter$Operator;" } : Jvm.MethodName) prog_21_method_4_code (5 : Nat) (Option.some (Jvm.ClassFile.FieldType.object "com/example/lakeledger/lakeledger/Filter$Operator")), Jvm.Cond.code ({ cls := "com/example/lakeledger/lakeledger/Filter$Operator", name := "values", desc := "()[Lcom/example/lakeledger/lakeledger/Filter$Operator;" } : Jvm.MethodName) prog_21_method_1_code (0 : Nat) (Option.some (Jvm.ClassFile.FieldType.array (Jvm.ClassFile.FieldType.object "com/example/lakeledger/lakeledger/Filter$Operator"))), Jvm.Cond.code ({ cls := "java/lang/String", name := "equals", desc := "(Ljava/lang/Object;)Z" } : Jvm.MethodName) jdk_42_method_66_code (3 : Nat) (Option.some Jvm.ClassFile.FieldType.boolean), Jvm.Cond.code ({ cls := "java/lang/StringLatin1", name := "equals", desc := "([B[B)Z" } : Jvm.MethodName) jdk_43_method_13_code (3 : Nat) (Option.some Jvm.ClassFile.FieldType.boolean), Jvm.Cond.code ({ cls := "com/example/lakeledger/lakeledger/OperatorOfPinLaw", name := "expected", desc := "(ICC)Lcom/example/lakeledger/lakeledger/Filter$Operator;" } : Jvm.MethodName) method_3_code (3 : Nat) (Option.some (Jvm.ClassFile.FieldType.object "com/example/lakeledger/lakeledger/Filter$Operator")), Jvm.Cond.code ({ cls := "java/lang/StringUTF16", name := "compress", desc := "([CII)[B" } : Jvm.MethodName) jdk_52_method_16_code (6 : Nat) (Option.some (Jvm.ClassFile.FieldType.array Jvm.ClassFile.FieldType.byte)), Jvm.Cond.code ({ cls := "java/lang/StringUTF16", name := "compress", desc := "([CI[BII)I" } : Jvm.MethodName) jdk_52_method_21_code (7 : Nat) (Option.some Jvm.ClassFile.FieldType.int), Jvm.Cond.code ({ cls := "java/lang/StringUTF16", name := "coderFromArrayLen", desc := "([BI)B" } : Jvm.MethodName) jdk_52_method_15_code (2 : Nat) (Option.some Jvm.ClassFile.FieldType.byte)]
set_option maxRecDepth 65536 in
theorem codes_eq : words1.filter isCode = codes1 := rfl
theorem w_codes : ∀ c ∈ words1.filter isCode, c.before args0 about1 = true := by
  rw [codes_eq]
  intro c hc
  simp only [codes1, List.mem_cons, List.not_mem_nil, or_false] at hc
  rcases hc with rfl | rfl | rfl | rfl | rfl | rfl | rfl | rfl | rfl | rfl | rfl | rfl | rfl
  · exact w_c0
  · exact w_c1
  · exact w_c2
  · exact w_c3
  · exact w_c4
  · exact w_c5
  · exact w_c6
  · exact w_c7
  · exact w_c8
  · exact w_c9
  · exact w_c10
  · exact w_c11
  · exact w_c12
set_option maxRecDepth 65536 in
theorem w_t1 : (words1.take 24).all (fun c => isCode c || c.before args0 about1) = true := by decide +kernel
set_option maxRecDepth 65536 in
theorem w_t2 : ((words1.drop 24).take 24).all (fun c => isCode c || c.before args0 about1) = true := by decide +kernel
set_option maxRecDepth 65536 in
theorem w_t3 : (((words1.drop 24).drop 24).take 24).all (fun c => isCode c || c.before args0 about1) = true := by decide +kernel
set_option maxRecDepth 65536 in
theorem w_t4 : (((words1.drop 24).drop 24).drop 24).all (fun c => isCode c || c.before args0 about1) = true := by decide +kernel
theorem w_tables : (allAtoms (Jvm.Cond.code x code maxLocals ret :: tables_1)).before args0 about1 = true := by
  rw [allAtoms_all]
  show words1.all (fun c => c.before args0 about1) = true
  refine all_split ?_ w_codes
  rw [← List.take_append_drop 24 words1, List.all_append, w_t1, ← List.take_append_drop 24 (words1.drop 24), List.all_append, w_t2, ← List.take_append_drop 24 ((words1.drop 24).drop 24), List.all_append, w_t3, w_t4]
  rfl
set_option maxRecDepth 65536 in
theorem w_rest : rest_1_c.before args0 about1 = true := by decide +kernel
set_option maxRecDepth 65536 in
theorem w_case : (Jvm.Cond.and given_1 narrow_1).before args0 about1 = true := by decide +kernel
set_option maxRecDepth 65536 in
theorem w_consts : constsHeld consts_1 about1 := Jvm.Lit.constsHeldB_iff.mp (by decide +kernel)
theorem w_applies : (headSpec (Jvm.Cond.code x code maxLocals ret :: tables_1) room_1).applies x e0.platform about1 = true :=
  (Spec.applies_iff w_frames).mpr ⟨w_running, w_runnable, w_alone, w_named, w_hears, w_ripe, w_room, w_tables⟩
theorem atStart : AtStart classFile x code maxLocals ret World_1 tables_1 room_1 Calls_1 rest_1 Pre_1 launch0 p0 e0 about1 theMethod args0 below0 :=
  ⟨lists_1, trivial, launch0.admits_env _ _ _, launch0.least_env, fairChoices_fair.cas, fairChoices_fair.clock, w_frames, w_args, w_heap, w_applies, ⟨w_consts, trivial⟩, w_rest, w_case⟩
end start1
theorem witness_1 : WitnessClaimed_1 := ⟨start1.p0, start1.e0, start1.about1, start1.theMethod, start1.args0, start1.below0, start1.atStart⟩
end Jvm.Pilot.@@N@@
