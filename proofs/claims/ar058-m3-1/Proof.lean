import JvmDerived
import JvmDerived.Pilot.@@N@@Statement
import JvmDerived.Pilot.@@N@@Code
set_option linter.unusedVariables false
set_option linter.unusedSimpArgs false
namespace Jvm.RoadKit
open Sem ClassFile Op Lib Jvm.Stand Jvm.Free Jvm.LawKit
section OwnKit
variable {p : Program} {l : Launch} {e : Env} {R : Room} {s : State} {m : MethodId} {args : Array Value} {below : List Frame} {meth : Method} {c : Code} {T : State} {locs : List Loc} {cells slots : Nat} {Z : State} {a0 : Array Value} {h h' : Heap}
/-- from this frame on the method ends, and Post says how -/
def own_Fin (p : Program) (e : Env) (below : List Frame) (Post : Outcome → State → Prop) (T : State) (g : JFrame) : Prop :=
  ∃ (t : State) (o : Outcome), Steps p.tables e below (T.setTop g) t ∧ t.status = .running ∧ Ended t below o ∧ Post o t
theorem own_step {Post : Outcome → State → Prop} {T T' : State} {g g' : JFrame} (st : ∀ t, Steps p.tables e below (T'.setTop g') t → Steps p.tables e below (T.setTop g) t) (k : own_Fin p e below Post T' g') : own_Fin p e below Post T g := by
  obtain ⟨t, o, a, b⟩ := k
  exact ⟨t, o, st _ a, b⟩
abbrev own_PostN (s : State) (rm : Room) (Q : Option Value → Heap → List Loc → Prop) : Outcome → State → Prop := fun o U' => ∃ v L, o = .returned v ∧ Q v U'.heap L ∧ FrameEnd s o U' L rm.cells rm.slots
/-- a body's contract: for these arguments, at this heap, over tables warmer than Z's -/
def own_Con (l : Launch) (Z : State) (y : MethodName) (bytes : ByteArray) (maxL : Nat) (ret : Option FieldType) (rm : Room) (as' : Array Value) (h : Heap) (Q : Option Value → Heap → List Loc → Prop) : Prop :=
  ∀ ws : List Cond, MetFree l y (head1 (Cond.code y bytes maxL ret :: ws) rm) (fun a U => a = as' ∧ Z.Warmed39 U.vm ∧ U.heap = h) (fun _ _ _ _ _ => True) (fun _ U o U' => ∃ v L, o = .returned v ∧ Q v U'.heap L ∧ FrameEnd U o U' L rm.cells rm.slots)
theorem own_con {y : MethodName} {bytes : ByteArray} {maxL : Nat} {ret : Option FieldType} {rm : Room} {as' : Array Value} {Q : Option Value → Heap → List Loc → Prop} {ls : Array Slot} (hpl : plainName y.cls = true) (ef : ∀ m, entryFrame m as' maxL = mkF m 0 ls [])
    (body : ∀ (p : Program) (e : Env) (s : State) (m : MethodId) (below : List Frame) (meth : Method) (c : Code) (s₁ : State), p.tables.exec = Jvm.exec → c.code = bytes → c.maxLocals = maxL → s.vm.findClass y.cls = some m.cls → meth.name = y.name → meth.sig.returnType = ret → meth.locks = false → Z.Warmed39 s.vm →
      Stand p l e rm s m as' below meth c s₁ [] 0 0 → s₁.heap = h → own_Fin p e below (own_PostN s rm Q) s₁ (mkF m 0 ls [])) : own_Con l Z y bytes maxL ret rm as' h Q := by
  intro ws
  refine MetFree.of_bodySF (plainFor_of_name hpl) hisR ?_
  intro p e s m args below meth c s₁ Bd hml0 hP hK
  obtain ⟨rfl, hZ, hh⟩ := hP
  have k := body p e s m below meth c s₁ Bd.exec Bd.bytes hml0 (findClass_of_methodNamed Bd.named) (name_of_methodNamed Bd.named Bd.method).1 Bd.returns Bd.notSynchronized hZ (Stand.of_body Bd) (by rw [← hh, Bd.state]; rfl)
  rw [← ef m] at k
  exact k
theorem own_ret {rm : Room} {Q : Option Value → Heap → List Loc → Prop} (X : Stand p l e R s m args below meth c T locs cells slots) (hlk : meth.locks = false) {v : Option Value} (hv : meth.sig.returnType = none → v = none) {g : JFrame}
    (st : ∀ fs, (∀ (f : JFrame) (acts : List Action), f.method = m → f.locked = none → f.entered = [] → (doReturn e (T.setTop f) acts v).1 = T.setFrames fs) → Steps p.tables e below (T.setTop g) (T.setFrames fs))
    (eT : T.heap = h) (hQ : Q v h locs) (hc : cells ≤ rm.cells) (hs : slots ≤ rm.slots) : own_Fin p e below (own_PostN s rm Q) T g := by
  obtain ⟨fs, hr, hrun, hended, hW, hsame⟩ := X.leave (v := v) hv hlk
  refine ⟨_, _, st fs hr, hrun, hended, v, locs, rfl, ?_, ⟨_, rfl⟩, hW, hsame.mono hc hs⟩
  show Q v T.heap locs
  rw [eT]; exact hQ
theorem own_retV {rm : Room} {Q : Option Value → Heap → List Loc → Prop} (X : Stand p l e R s m args below meth c T locs cells slots) (hx : p.tables.exec = Jvm.exec) (hlk : meth.locks = false) (hret : meth.sig.returnType = none) {pc : Nat} {Ls : Array Slot} (hd : decode c.code pc = .ok (.return_, 1))
    (eT : T.heap = h) (hQ : Q none h locs) (hc : cells ≤ rm.cells) (hs : slots ≤ rm.slots) : own_Fin p e below (own_PostN s rm Q) T (mkF m pc Ls []) :=
  own_ret X hlk (fun _ => rfl) (fun fs hr => X.returnOut hx hret hd hr) eT hQ hc hs
theorem own_retN {rm : Room} {Q : Option Value → Heap → List Loc → Prop} (X : Stand p l e R s m args below meth c T locs cells slots) (hx : p.tables.exec = Jvm.exec) (hlk : meth.locks = false) {t : FieldType} (hret : meth.sig.returnType = some t) (ht : t = .boolean ∨ t = .byte ∨ t = .char ∨ t = .short) {pc : Nat} {Ls : Array Slot} {z : Int32} {rest : List Value} (hd : decode c.code pc = .ok (.ireturn, 1))
    (eT : T.heap = h) (hQ : Q (some (.int (nar t z))) h locs) (hc : cells ≤ rm.cells) (hs : slots ≤ rm.slots) : own_Fin p e below (own_PostN s rm Q) T (mkF m pc Ls (.int z :: rest)) :=
  own_ret X hlk (fun q => by rw [hret] at q; cases q) (fun fs hr => retN X hx hret ht hd hr) eT hQ hc hs
theorem own_retI {rm : Room} {Q : Option Value → Heap → List Loc → Prop} (X : Stand p l e R s m args below meth c T locs cells slots) (hx : p.tables.exec = Jvm.exec) (hlk : meth.locks = false) (hret : meth.sig.returnType = some .int) {pc : Nat} {Ls : Array Slot} {z : Int32} {rest : List Value} (hd : decode c.code pc = .ok (.ireturn, 1))
    (eT : T.heap = h) (hQ : Q (some (.int z)) h locs) (hc : cells ≤ rm.cells) (hs : slots ≤ rm.slots) : own_Fin p e below (own_PostN s rm Q) T (mkF m pc Ls (.int z :: rest)) :=
  own_ret X hlk (fun q => by rw [hret] at q; cases q) (fun fs hr => retOut X hx hret rfl (Or.inl ⟨rfl, Or.inl rfl, z, rfl⟩) hd hr) eT hQ hc hs
theorem own_retL {rm : Room} {Q : Option Value → Heap → List Loc → Prop} (X : Stand p l e R s m args below meth c T locs cells slots) (hx : p.tables.exec = Jvm.exec) (hlk : meth.locks = false) (hret : meth.sig.returnType = some .long) {pc : Nat} {Ls : Array Slot} {z : Int64} {rest : List Value} (hd : decode c.code pc = .ok (.lreturn, 1))
    (eT : T.heap = h) (hQ : Q (some (.long z)) h locs) (hc : cells ≤ rm.cells) (hs : slots ≤ rm.slots) : own_Fin p e below (own_PostN s rm Q) T (mkF m pc Ls (.long z :: rest)) :=
  own_ret X hlk (fun q => by rw [hret] at q; cases q) (fun fs hr => retOut X hx hret rfl (Or.inr (Or.inl ⟨rfl, rfl, z, rfl⟩)) hd hr) eT hQ hc hs
theorem own_retA {rm : Room} {Q : Option Value → Heap → List Loc → Prop} (X : Stand p l e R s m args below meth c T locs cells slots) (hx : p.tables.exec = Jvm.exec) (hlk : meth.locks = false) {t : FieldType} (hret : meth.sig.returnType = some t) {w : Value} (hn : narrow t w = w) (ht : t.isReference = true) (hw : w.isRef = true) {pc : Nat} {Ls : Array Slot} {rest : List Value} (hd : decode c.code pc = .ok (.areturn, 1))
    (eT : T.heap = h) (hQ : Q (some w) h locs) (hc : cells ≤ rm.cells) (hs : slots ≤ rm.slots) : own_Fin p e below (own_PostN s rm Q) T (mkF m pc Ls (w :: rest)) :=
  own_ret X hlk (fun q => by rw [hret] at q; cases q) (fun fs hr => retOut X hx hret hn (Or.inr (Or.inr (Or.inr (Or.inr ⟨rfl, ht, hw⟩)))) hd hr) eT hQ hc hs
/-- a constructor, by its contract -/
theorem own_callC {y : MethodName} {bytes : ByteArray} {maxL : Nat} {rm : Room} {Q : Option Value → Heap → List Loc → Prop} {own : String} {index W : Nat} (X : Stand p l e R s m args below meth c T locs cells slots) (hx : p.tables.exec = Jvm.exec) (hZ : Z.Warmed39 s.vm) (hown : s.vm.findClass own = some m.cls) (hy1 : y.name = "<init>")
    (w1 : (Cond.methodLink own index y).before a0 Z = true) (w2 : (Cond.instanceMethod y).before a0 Z = true) (wc : (Cond.code y bytes maxL none).before a0 Z = true) (wz : (Cond.initialized y.cls).before a0 Z = true) (hy : y.cls ≠ "java/lang/invoke/MethodHandle" ∧ y.cls ≠ "java/lang/invoke/VarHandle")
    {a : Addr} {g : JFrame} (hg : g.method = m) (hsize : g.locals.size = c.maxLocals) {argsL rest : List Value} (K : own_Con l Z y bytes maxL none rm (.ref a :: argsL).toArray h Q) (eT : T.heap = h) {ps : List FieldType} {r : Option FieldType} (hpd : parseMethodDescriptor y.desc = some ⟨ps, r⟩) (hlen : argsL.length = ps.length) (hstack : g.stack = argsL.reverse ++ .ref a :: rest) (hW : 2 * g.monitorRoom + (rest.map fun v => v.category).sum ≤ W)
    (hdg : decode c.code g.pc = .ok (.invokespecial index, 3)) (hf : rm.frames + 1 ≤ R.frames) (hl : W + (maxL + 11) + rm.locals ≤ R.locals) (hcc : cells + rm.cells ≤ R.cells) (hss : slots + rm.slots ≤ R.slots) :
    ∃ (T' : State) (L : List Loc) (v : Option Value) (h' : Heap), Stand p l e R s m args below meth c T' (locs ++ L) (cells + rm.cells) (slots + rm.slots) ∧ T'.heap = h' ∧ Q v h' L ∧ ∀ t, Steps p.tables e below (T'.setTop { g with pc := g.pc + 3, stack := v.toList ++ rest }) t → Steps p.tables e below (T.setTop g) t := by
  obtain ⟨v, _, ⟨T', L', k', n'⟩, -, X', ⟨L, hQ, l1, l2, l3⟩, st⟩ := X.specialBack hx hy1 hown (mvT hZ w1) (mvT hZ w2) (mvT hZ wc) hy (backOf (K []) hZ wc wz hf hl) hg hsize (Steps.refl _) (a := a) (argsL := argsL) (rest := rest) (lenOf hpd hlen) hstack hW hdg (fun _ _ => ⟨rfl, eT, hcc, hss⟩)
  dsimp only [Pt.U, Pt.locs, Pt.cells, Pt.slots] at X' l1 l2 l3 st hQ
  subst l1 l2 l3
  exact ⟨T', L, v, _, X', rfl, hQ, fun t k => st.trans k⟩
/-- a static method, by its contract -/
theorem own_callS {y : MethodName} {bytes : ByteArray} {maxL : Nat} {ret : Option FieldType} {rm : Room} {Q : Option Value → Heap → List Loc → Prop} {own : String} {index W : Nat} (X : Stand p l e R s m args below meth c T locs cells slots) (hx : p.tables.exec = Jvm.exec) (hZ : Z.Warmed39 s.vm) (hown : s.vm.findClass own = some m.cls)
    (w1 : (Cond.methodLink own index y).before a0 Z = true) (w2 : (Cond.static y).before a0 Z = true) (wc : (Cond.code y bytes maxL ret).before a0 Z = true) (wz : (Cond.initialized y.cls).before a0 Z = true) (hy : y.cls ≠ "java/lang/invoke/MethodHandle" ∧ y.cls ≠ "java/lang/invoke/VarHandle")
    {g : JFrame} (hg : g.method = m) (hsize : g.locals.size = c.maxLocals) {argsL rest : List Value} (K : own_Con l Z y bytes maxL ret rm argsL.toArray h Q) (eT : T.heap = h) {ps : List FieldType} {r : Option FieldType} (hpd : parseMethodDescriptor y.desc = some ⟨ps, r⟩) (hlen : argsL.length = ps.length) (hstack : g.stack = argsL.reverse ++ rest) (hW : 2 * g.monitorRoom + (rest.map fun v => v.category).sum ≤ W)
    (hdg : decode c.code g.pc = .ok (.invokestatic index, 3)) (hf : rm.frames + 1 ≤ R.frames) (hl : W + (maxL + 11) + rm.locals ≤ R.locals) (hcc : cells + rm.cells ≤ R.cells) (hss : slots + rm.slots ≤ R.slots) :
    ∃ (T' : State) (L : List Loc) (v : Option Value) (h' : Heap), Stand p l e R s m args below meth c T' (locs ++ L) (cells + rm.cells) (slots + rm.slots) ∧ T'.heap = h' ∧ Q v h' L ∧ ∀ t, Steps p.tables e below (T'.setTop { g with pc := g.pc + 3, stack := v.toList ++ rest }) t → Steps p.tables e below (T.setTop g) t := by
  obtain ⟨v, _, ⟨T', L', k', n'⟩, -, X', ⟨L, hQ, l1, l2, l3⟩, st⟩ := Jvm.LawKit.callS X hx hown (mvT hZ w1) (mvT hZ w2) (mvT hZ wz) (mvT hZ wc) hy (backOf (K []) hZ wc wz hf hl) hg hsize (argsL := argsL) (rest := rest) (lenOf hpd hlen) hstack hW hdg (fun _ _ => ⟨rfl, eT, hcc, hss⟩)
  dsimp only [Pt.U, Pt.locs, Pt.cells, Pt.slots] at X' l1 l2 l3 st hQ
  subst l1 l2 l3
  exact ⟨T', L, v, _, X', rfl, hQ, fun t k => st _ k⟩
/-- a static method that a class above declares -/
theorem own_callSU {x : MethodName} {owner : String} {bytes : ByteArray} {maxL : Nat} {ret : Option FieldType} {rm : Room} {Q : Option Value → Heap → List Loc → Prop} {own : String} {index W : Nat} (X : Stand p l e R s m args below meth c T locs cells slots) (hx : p.tables.exec = Jvm.exec) (hZ : Z.Warmed39 s.vm) (hown : s.vm.findClass own = some m.cls)
    (w1 : (Cond.methodLink own index x).before a0 Z = true) (ws : (Cond.sameMethod x.cls owner x.name x.desc).before a0 Z = true) (w2 : (Cond.static ⟨owner, x.name, x.desc⟩).before a0 Z = true) (wc : (Cond.code ⟨owner, x.name, x.desc⟩ bytes maxL ret).before a0 Z = true) (wz : (Cond.initialized owner).before a0 Z = true) (hy : owner ≠ "java/lang/invoke/MethodHandle" ∧ owner ≠ "java/lang/invoke/VarHandle")
    {g : JFrame} (hg : g.method = m) (hsize : g.locals.size = c.maxLocals) {argsL rest : List Value} (K : own_Con l Z ⟨owner, x.name, x.desc⟩ bytes maxL ret rm argsL.toArray h Q) (eT : T.heap = h) {ps : List FieldType} {r : Option FieldType} (hpd : parseMethodDescriptor x.desc = some ⟨ps, r⟩) (hlen : argsL.length = ps.length) (hstack : g.stack = argsL.reverse ++ rest) (hW : 2 * g.monitorRoom + (rest.map fun v => v.category).sum ≤ W)
    (hdg : decode c.code g.pc = .ok (.invokestatic index, 3)) (hf : rm.frames + 1 ≤ R.frames) (hl : W + (maxL + 11) + rm.locals ≤ R.locals) (hcc : cells + rm.cells ≤ R.cells) (hss : slots + rm.slots ≤ R.slots) :
    ∃ (T' : State) (L : List Loc) (v : Option Value) (h' : Heap), Stand p l e R s m args below meth c T' (locs ++ L) (cells + rm.cells) (slots + rm.slots) ∧ T'.heap = h' ∧ Q v h' L ∧ ∀ t, Steps p.tables e below (T'.setTop { g with pc := g.pc + 3, stack := v.toList ++ rest }) t → Steps p.tables e below (T.setTop g) t := by
  have wc' : (Cond.code ⟨owner, x.name, x.desc⟩ bytes maxL ret).before args s = true := mvT hZ wc
  obtain ⟨mk, hnamed⟩ := Cond.code_named wc'
  obtain ⟨methM, cM, hmethM, -, -, -, -, -, -, hsig⟩ := Cond.code_spec hnamed wc'
  obtain ⟨v, _, ⟨T', L', k', n'⟩, -, X', ⟨L, hQ, l1, l2, l3⟩, st⟩ := X.staticBackUp hx hown (mvT hZ w1) (mvT hZ ws) (mvT hZ w2) (mvT hZ wz) hnamed hmethM hsig hy (backOf (K []) hZ wc wz hf hl) hg hsize (Steps.refl _) (argsL := argsL) (rest := rest) (lenOf hpd hlen) hstack hW hdg (fun _ _ => ⟨rfl, eT, hcc, hss⟩)
  dsimp only [Pt.U, Pt.locs, Pt.cells, Pt.slots] at X' l1 l2 l3 st hQ
  subst l1 l2 l3
  exact ⟨T', L, v, _, X', rfl, hQ, fun t k => st.trans k⟩
/-- an instance method that the receiver's class selects, by its contract -/
theorem own_callV {y : MethodName} {C : String} {bytes : ByteArray} {maxL : Nat} {ret : Option FieldType} {rm : Room} {Q : Option Value → Heap → List Loc → Prop} {own : String} {index W : Nat} (X : Stand p l e R s m args below meth c T locs cells slots) (hx : p.tables.exec = Jvm.exec) (hZ : Z.Warmed39 s.vm) (hown : s.vm.findClass own = some m.cls)
    (w1 : (Cond.methodLink own index y).before a0 Z = true) (wd : (Cond.declares y).before a0 Z = true) (wsel : (Cond.selects C y y).before a0 Z = true) (w2 : (Cond.instanceMethod y).before a0 Z = true) (wc : (Cond.code y bytes maxL ret).before a0 Z = true) (wz : (Cond.initialized y.cls).before a0 Z = true) (hy : y.cls ≠ "java/lang/invoke/MethodHandle" ∧ y.cls ≠ "java/lang/invoke/VarHandle")
    {a : Addr} (E : Exa Z h a C) {g : JFrame} (hg : g.method = m) (hsize : g.locals.size = c.maxLocals) {argsL rest : List Value} (K : own_Con l Z y bytes maxL ret rm (.ref a :: argsL).toArray h Q) (eT : T.heap = h) {ps : List FieldType} {r : Option FieldType} (hpd : parseMethodDescriptor y.desc = some ⟨ps, r⟩) (hlen : argsL.length = ps.length) (hstack : g.stack = argsL.reverse ++ .ref a :: rest) (hW : 2 * g.monitorRoom + (rest.map fun v => v.category).sum ≤ W)
    (hdg : decode c.code g.pc = .ok (.invokevirtual index, 3)) (hf : rm.frames + 1 ≤ R.frames) (hl : W + (maxL + 11) + rm.locals ≤ R.locals) (hcc : cells + rm.cells ≤ R.cells) (hss : slots + rm.slots ≤ R.slots) :
    ∃ (T' : State) (L : List Loc) (v : Option Value) (h' : Heap), Stand p l e R s m args below meth c T' (locs ++ L) (cells + rm.cells) (slots + rm.slots) ∧ T'.heap = h' ∧ Q v h' L ∧ ∀ t, Steps p.tables e below (T'.setTop { g with pc := g.pc + 3, stack := v.toList ++ rest }) t → Steps p.tables e below (T.setTop g) t := by
  obtain ⟨cB, kB, q1, q2, q3⟩ := isOf hZ eT E
  obtain ⟨v, _, ⟨T', L', k', n'⟩, -, X', ⟨L, hQ, l1, l2, l3⟩, st⟩ := X.virtualBack hx hown (mvT hZ w1) (mvT hZ wd) (notFace_of_selects (args := #[]) (mvT hZ wsel)) (mvT hZ wsel) (mvT hZ w2) hy (backOf (K []) hZ wc wz hf hl) q1 q3 hg hsize (Steps.refl _) (argsL := argsL) (rest := rest) (lenOf hpd hlen) hstack hW hdg (fun _ _ => ⟨rfl, eT, hcc, hss⟩)
  dsimp only [Pt.U, Pt.locs, Pt.cells, Pt.slots] at X' l1 l2 l3 st hQ
  subst l1 l2 l3
  exact ⟨T', L, v, _, X', rfl, hQ, fun t k => st.trans k⟩
/-- .. that a class above the named one declares -/
theorem own_callVU {x : MethodName} {C owner : String} {bytes : ByteArray} {maxL : Nat} {ret : Option FieldType} {rm : Room} {Q : Option Value → Heap → List Loc → Prop} {own : String} {index W : Nat} (X : Stand p l e R s m args below meth c T locs cells slots) (hx : p.tables.exec = Jvm.exec) (hZ : Z.Warmed39 s.vm) (hown : s.vm.findClass own = some m.cls)
    (w1 : (Cond.methodLink own index x).before a0 Z = true) (ws : (Cond.sameMethod x.cls owner x.name x.desc).before a0 Z = true) (wd : (Cond.declares ⟨owner, x.name, x.desc⟩).before a0 Z = true) (hy : owner ≠ "java/lang/invoke/MethodHandle" ∧ owner ≠ "java/lang/invoke/VarHandle") (wsel : (Cond.selects C x ⟨owner, x.name, x.desc⟩).before a0 Z = true) (w2 : (Cond.instanceMethod ⟨owner, x.name, x.desc⟩).before a0 Z = true) (wc : (Cond.code ⟨owner, x.name, x.desc⟩ bytes maxL ret).before a0 Z = true) (wz : (Cond.initialized owner).before a0 Z = true)
    {a : Addr} (E : Exa Z h a C) {g : JFrame} (hg : g.method = m) (hsize : g.locals.size = c.maxLocals) {argsL rest : List Value} (K : own_Con l Z ⟨owner, x.name, x.desc⟩ bytes maxL ret rm (.ref a :: argsL).toArray h Q) (eT : T.heap = h) {ps : List FieldType} {r : Option FieldType} (hpd : parseMethodDescriptor x.desc = some ⟨ps, r⟩) (hlen : argsL.length = ps.length) (hstack : g.stack = argsL.reverse ++ .ref a :: rest) (hW : 2 * g.monitorRoom + (rest.map fun v => v.category).sum ≤ W)
    (hdg : decode c.code g.pc = .ok (.invokevirtual index, 3)) (hf : rm.frames + 1 ≤ R.frames) (hl : W + (maxL + 11) + rm.locals ≤ R.locals) (hcc : cells + rm.cells ≤ R.cells) (hss : slots + rm.slots ≤ R.slots) :
    ∃ (T' : State) (L : List Loc) (v : Option Value) (h' : Heap), Stand p l e R s m args below meth c T' (locs ++ L) (cells + rm.cells) (slots + rm.slots) ∧ T'.heap = h' ∧ Q v h' L ∧ ∀ t, Steps p.tables e below (T'.setTop { g with pc := g.pc + 3, stack := v.toList ++ rest }) t → Steps p.tables e below (T.setTop g) t := by
  obtain ⟨cB, kB, q1, q2, q3⟩ := isOf hZ eT E
  obtain ⟨v, _, ⟨T', L', k', n'⟩, -, X', ⟨L, hQ, l1, l2, l3⟩, st⟩ := X.virtualBackUp hx hown (mvT hZ w1) (mvT hZ ws) (mvT hZ wd) hy (mvT hZ wsel) (mvT hZ w2) (backOf (K []) hZ wc wz hf hl) q1 q3 hg hsize (Steps.refl _) (argsL := argsL) (rest := rest) (lenOf hpd hlen) hstack hW hdg (fun _ _ => ⟨rfl, eT, hcc, hss⟩)
  dsimp only [Pt.U, Pt.locs, Pt.cells, Pt.slots] at X' l1 l2 l3 st hQ
  subst l1 l2 l3
  exact ⟨T', L, v, _, X', rfl, hQ, fun t k => st.trans k⟩
/-- an object of just this class, no box of the VM's own -/
def own_Obj (Z : State) (h : Heap) (a : Addr) (C : String) : Prop := Exa Z h a C ∧ ∃ cell : Cell, h[a]? = some cell ∧ cell.vm ≠ .unknown
theorem own_Obj.new {a : Addr} {C : String} (E : Exa Z h a C) (N : ∃ cell : Cell, h[a]? = some cell ∧ cell.vm = .none ∧ cell.monitor = {}) : own_Obj Z h a C := by
  obtain ⟨cell, h1, h2, -⟩ := N
  exact ⟨E, cell, h1, by rw [h2]; simp⟩
theorem own_Obj.lt {a : Addr} {C : String} (F : own_Obj Z h a C) : a < h.size := F.1.lt
theorem own_Obj.ext {a : Addr} {C : String} (F : own_Obj Z h a C) (E : Ext h h') : own_Obj Z h' a C := by
  obtain ⟨F, cell, h1, h2⟩ := F
  exact ⟨F.ext E, cell, E.2 _ _ h1, h2⟩
theorem own_Obj.keep {a : Addr} {C : String} {ws : List Addr} (F : own_Obj Z h a C) (K : Keep h h' ws) : own_Obj Z h' a C := by
  obtain ⟨F, cell, h1, h2⟩ := F
  obtain ⟨c', q1, -, q3, -⟩ := K.2.2 a cell h1
  exact ⟨F.keep K, c', q1, by rw [q3]; exact h2⟩
theorem own_Obj.wr {a b : Addr} {C : String} {sl : Nat} {v : Value} (F : own_Obj Z h a C) (W : Wr h h' b sl v) : own_Obj Z h' a C := F.keep (Keep.of_wr W)
theorem own_Obj.fld {a : Addr} {C O n d : String} {k : Nat} (F : own_Obj Z h a C) (wi : (Cond.instantiable C k).before a0 Z = true) (L : Laid Z a0 C O n d) : ∃ v, Fld Z h a O n d v := fld_laid F.1 F.2 wi L
/-- arraylength, of an array known -/
theorem own_alen (X : Stand p l e R s m args below meth c T locs cells slots) (hx : p.tables.exec = Jvm.exec) (hZ : Z.Warmed39 s.vm) (eT : T.heap = h) {a : Addr} {k : ClassId} {ty : FieldType} {z : Int32} {vs : List Value} {dv : Value} (A : Arv Z h a k ty z vs dv) {g : JFrame} (hg : g.method = m) {rest : List Value} (hs : g.stack = .ref a :: rest) (hd : decode c.code g.pc = .ok (.arraylength, 1)) :
    ∀ t, Steps p.tables e below (T.setTop { g with pc := g.pc + 1, stack := .int z :: rest }) t → Steps p.tables e below (T.setTop g) t := by
  obtain ⟨cl, A, q1, S, q3, H, G⟩ := A
  intro t k
  refine X.arraylength hx (by rw [eT]; exact A.1) (State.isArrayOf_alike hZ.alike A.2.1) hg hs hd _ ?_
  rw [len_of S q3]
  exact k
/-- getfield through an entry that is said resolved -/
theorem own_getR (X : Stand p l e R s m args below meth c T locs cells slots) (hx : p.tables.exec = Jvm.exec) (hZ : Z.Warmed39 s.vm) {own O n d : String} {index : Nat} (hown : s.vm.findClass own = some m.cls) (w : (Cond.fieldRef own index O n d).before a0 Z = true) (eT : T.heap = h) {a : Addr} {v : Value} (F : Fld Z h a O n d v)
    {g : JFrame} (hg : g.method = m) {rest : List Value} (hs : g.stack = .ref a :: rest) (hd : decode c.code g.pc = .ok (.getfield index, 3)) :
    ∀ t, Steps p.tables e below (T.setTop { g with pc := g.pc + 3, stack := v :: rest }) t → Steps p.tables e below (T.setTop g) t := by
  have w1 : (Cond.fieldRef own index O n d).before a0 (Z.setVm s.vm) = true := Cond.fieldRef_warmed39 hZ w
  have w2 : (Cond.fieldRef own index O n d).before a0 ((Z.setVm s.vm).setVm T.vm) = true := Cond.fieldRef_warmed (s := Z.setVm s.vm) X.warmed w1
  have hU : Z.Warmed39 T.vm := wtrans hZ X.warmed
  have hown' : ((Z.setVm s.vm).setVm T.vm).vm.findClass own = some m.cls := by
    show T.vm.findClass own = _
    rw [X.warmed.alike.findClass]; exact hown
  obtain ⟨cf, k, i, f, hf, hr⟩ := Cond.fieldRef_spec hown' w2
  obtain ⟨cell, cf2, k2, i2, f2, h1, h2, h3, h4, -, -, h7⟩ := F
  obtain ⟨k', hi, -⟩ := State.fieldFound?_setVm (s := Z) hU.alike h2
  have hf' : (Z.setVm T.vm).fieldFound? O n d = some (cf, k, i, f) := hf
  rw [hi] at hf'
  cases hf'
  intro t k
  subst hg
  jvm_step X.here [X.here.top, hx, hd, getfield.wp_ready (e := e) (s := T) (f := g) X.here.top hr h3 hs (by rw [eT]; exact h1) h4 h7]
  exact k
end OwnKit
end Jvm.RoadKit
namespace Jvm.RoadKit
open Sem ClassFile Op Lib Jvm.Stand Jvm.Free Jvm.LawKit
section OwnBack
variable {p : Program} {l : Launch} {e : Env} {R : Room} {s : State} {m : MethodId} {args : Array Value} {below : List Frame} {meth : Method} {c : Code} {T : State} {locs : List Loc} {cells slots : Nat} {Z : State} {a0 : Array Value} {h h' : Heap}
/-- a constructor, by who pays it -/
theorem own_bcallC {y : MethodName} {bytes : ByteArray} {maxL nc ns : Nat} {Q : Option Value → Heap → List Loc → Prop} {own : String} {index W : Nat} (X : Stand p l e R s m args below meth c T locs cells slots) (hx : p.tables.exec = Jvm.exec) (hZ : Z.Warmed39 s.vm) (hown : s.vm.findClass own = some m.cls) (hy1 : y.name = "<init>")
    (w1 : (Cond.methodLink own index y).before a0 Z = true) (w2 : (Cond.instanceMethod y).before a0 Z = true) (wc : (Cond.code y bytes maxL none).before a0 Z = true) (hy : y.cls ≠ "java/lang/invoke/MethodHandle" ∧ y.cls ≠ "java/lang/invoke/VarHandle")
    {a : Addr} {g : JFrame} (hg : g.method = m) (hsize : g.locals.size = c.maxLocals) {argsL rest : List Value}
    (K : Back l R p e below s args y 3 W (fun A b => b = (.ref a :: argsL).toArray ∧ A.U.heap = h ∧ A.cells + nc ≤ R.cells ∧ A.slots + ns ≤ R.slots) (fun A _ v B => ∃ L, Q v B.U.heap L ∧ B.locs = A.locs ++ L ∧ B.cells = A.cells + nc ∧ B.slots = A.slots + ns))
    (eT : T.heap = h) {ps : List FieldType} {r : Option FieldType} (hpd : parseMethodDescriptor y.desc = some ⟨ps, r⟩) (hlen : argsL.length = ps.length) (hstack : g.stack = argsL.reverse ++ .ref a :: rest) (hW : 2 * g.monitorRoom + (rest.map fun v => v.category).sum ≤ W)
    (hdg : decode c.code g.pc = .ok (.invokespecial index, 3)) (hcc : cells + nc ≤ R.cells) (hss : slots + ns ≤ R.slots) :
    ∃ (T' : State) (L : List Loc) (v : Option Value) (h' : Heap), Stand p l e R s m args below meth c T' (locs ++ L) (cells + nc) (slots + ns) ∧ T'.heap = h' ∧ Q v h' L ∧ ∀ t, Steps p.tables e below (T'.setTop { g with pc := g.pc + 3, stack := v.toList ++ rest }) t → Steps p.tables e below (T.setTop g) t := by
  obtain ⟨v, _, ⟨T', L', k', n'⟩, -, X', ⟨L, hQ, l1, l2, l3⟩, st⟩ := X.specialBack hx hy1 hown (mvT hZ w1) (mvT hZ w2) (mvT hZ wc) hy K hg hsize (Steps.refl _) (a := a) (argsL := argsL) (rest := rest) (lenOf hpd hlen) hstack hW hdg (fun _ _ => ⟨rfl, eT, hcc, hss⟩)
  dsimp only [Pt.U, Pt.locs, Pt.cells, Pt.slots] at X' l1 l2 l3 st hQ
  subst l1 l2 l3
  exact ⟨T', L, v, _, X', rfl, hQ, fun t k => st.trans k⟩
/-- an instance method that the receiver's class selects, by who pays it -/
theorem own_bcallV {y : MethodName} {C : String} {nc ns : Nat} {Q : Option Value → Heap → List Loc → Prop} {own : String} {index W : Nat} (X : Stand p l e R s m args below meth c T locs cells slots) (hx : p.tables.exec = Jvm.exec) (hZ : Z.Warmed39 s.vm) (hown : s.vm.findClass own = some m.cls)
    (w1 : (Cond.methodLink own index y).before a0 Z = true) (wd : (Cond.declares y).before a0 Z = true) (wsel : (Cond.selects C y y).before a0 Z = true) (w2 : (Cond.instanceMethod y).before a0 Z = true) (hy : y.cls ≠ "java/lang/invoke/MethodHandle" ∧ y.cls ≠ "java/lang/invoke/VarHandle")
    {a : Addr} (E : Exa Z h a C) {g : JFrame} (hg : g.method = m) (hsize : g.locals.size = c.maxLocals) {argsL rest : List Value}
    (K : Back l R p e below s args y 3 W (fun A b => b = (.ref a :: argsL).toArray ∧ A.U.heap = h ∧ A.cells + nc ≤ R.cells ∧ A.slots + ns ≤ R.slots) (fun A _ v B => ∃ L, Q v B.U.heap L ∧ B.locs = A.locs ++ L ∧ B.cells = A.cells + nc ∧ B.slots = A.slots + ns))
    (eT : T.heap = h) {ps : List FieldType} {r : Option FieldType} (hpd : parseMethodDescriptor y.desc = some ⟨ps, r⟩) (hlen : argsL.length = ps.length) (hstack : g.stack = argsL.reverse ++ .ref a :: rest) (hW : 2 * g.monitorRoom + (rest.map fun v => v.category).sum ≤ W)
    (hdg : decode c.code g.pc = .ok (.invokevirtual index, 3)) (hcc : cells + nc ≤ R.cells) (hss : slots + ns ≤ R.slots) :
    ∃ (T' : State) (L : List Loc) (v : Option Value) (h' : Heap), Stand p l e R s m args below meth c T' (locs ++ L) (cells + nc) (slots + ns) ∧ T'.heap = h' ∧ Q v h' L ∧ ∀ t, Steps p.tables e below (T'.setTop { g with pc := g.pc + 3, stack := v.toList ++ rest }) t → Steps p.tables e below (T.setTop g) t := by
  obtain ⟨cB, kB, q1, q2, q3⟩ := isOf hZ eT E
  obtain ⟨v, _, ⟨T', L', k', n'⟩, -, X', ⟨L, hQ, l1, l2, l3⟩, st⟩ := X.virtualBack hx hown (mvT hZ w1) (mvT hZ wd) (notFace_of_selects (args := #[]) (mvT hZ wsel)) (mvT hZ wsel) (mvT hZ w2) hy K q1 q3 hg hsize (Steps.refl _) (argsL := argsL) (rest := rest) (lenOf hpd hlen) hstack hW hdg (fun _ _ => ⟨rfl, eT, hcc, hss⟩)
  dsimp only [Pt.U, Pt.locs, Pt.cells, Pt.slots] at X' l1 l2 l3 st hQ
  subst l1 l2 l3
  exact ⟨T', L, v, _, X', rfl, hQ, fun t k => st.trans k⟩
theorem own_nref {u : Value} {C : String} (r : u.isRef = true) : narrow (.object C) u = u := by cases u <;> simp [Value.isRef] at r <;> rfl
theorem own_fref {u : Value} {C : String} (r : u.isRef = true) : fits (.object C) u = true := by cases u <;> simp [Value.isRef] at r <;> rfl
/-- caload, of an array known -/
theorem own_caload (X : Stand p l e R s m args below meth c T locs cells slots) (hx : p.tables.exec = Jvm.exec) (hZ : Z.Warmed39 s.vm) (eT : T.heap = h) {a : Addr} {k : ClassId} {z j v : Int32} {vs : List Value} {dv : Value} (A : Arv Z h a k .char z vs dv) (hj : ¬ j < 0 ∧ j < z) (hv : vs.getD j.toNatClampNeg dv = .int v) {g : JFrame} (hg : g.method = m) {rest : List Value} (hs : g.stack = .int j :: .ref a :: rest) (hd : decode c.code g.pc = .ok (.caload, 1)) :
    ∀ t, Steps p.tables e below (T.setTop { g with pc := g.pc + 1, stack := .int v :: rest }) t → Steps p.tables e below (T.setTop g) t := by
  obtain ⟨cl, A, q1, S, q3, H, G⟩ := A
  intro t k
  exact X.caload hx (j := j) (v := .int v) (by rw [eT]; exact A.1) (State.isArrayOf_alike hZ.alike A.2.1) A.2.2 (inb_of S hj) (H.at (inb_of S hj) hv) hg hs hd _ k
end OwnBack
end Jvm.RoadKit
namespace Jvm.RoadKit
open Sem ClassFile Op Lib Bundle Jvm.Stand Jvm.Free Jvm.LawKit Jvm.Free.SB Jvm.Free.SBG
section OwnWide
variable {p : Program} {l : Launch} {e : Env} {R : Room} {s : State} {m : MethodId} {args : Array Value} {below : List Frame} {meth : Method} {c : Code} {T : State} {locs : List Loc} {cells slots : Nat} {Z : State} {a0 : Array Value} {h h' : Heap} {vm0 : Vm}
abbrev own_PostW (s : State) (rm : Room) (Q : Option Value → Heap → List Loc → Prop) : Outcome → State → Prop := fun o U' => ∃ v L, o = .returned v ∧ Q v U'.heap L ∧ ReturnedEndW s o U' L rm.cells rm.slots
/-- a body's contract where String constants may be loaded: J is what is known of the tables at its start -/
def own_ConW (l : Launch) (Z : State) (J : Vm → Prop) (y : MethodName) (bytes : ByteArray) (maxL : Nat) (ret : Option FieldType) (rm : Room) (as' : Array Value) (h : Heap) (Q : Option Value → Heap → List Loc → Prop) : Prop :=
  ∀ ws : List Cond, MetFree l y (head1 (Cond.code y bytes maxL ret :: ws) rm) (fun a U => a = as' ∧ Z.Warmed39 U.vm ∧ U.heap = h ∧ J U.vm) (fun _ _ _ _ _ => True) (fun _ U o U' => ∃ v L, o = .returned v ∧ Q v U'.heap L ∧ ReturnedEndW U o U' L rm.cells rm.slots)
theorem own_conW {J : Vm → Prop} {y : MethodName} {bytes : ByteArray} {maxL : Nat} {ret : Option FieldType} {rm : Room} {as' : Array Value} {Q : Option Value → Heap → List Loc → Prop} {ls : Array Slot} (hpl : plainName y.cls = true) (ef : ∀ m, entryFrame m as' maxL = mkF m 0 ls [])
    (body : ∀ (p : Program) (e : Env) (s : State) (m : MethodId) (below : List Frame) (meth : Method) (c : Code) (s₁ : State), p.tables.exec = Jvm.exec → c.code = bytes → c.maxLocals = maxL → s.vm.findClass y.cls = some m.cls → meth.name = y.name → meth.sig.returnType = ret → meth.locks = false → Z.Warmed39 s.vm →
      Stand p l e rm (s.setVm s.vm) m as' below meth c s₁ [] 0 0 → s₁.heap = h → s.Since s.vm 0 → J s.vm → own_Fin p e below (own_PostW s rm Q) s₁ (mkF m 0 ls [])) : own_ConW l Z J y bytes maxL ret rm as' h Q := by
  intro ws
  refine MetFree.of_bodySF (plainFor_of_name hpl) hisR ?_
  intro p e s m args below meth c s₁ Bd hml0 hP hK
  obtain ⟨rfl, hZ, hh, hJ⟩ := hP
  have k := body p e s m below meth c s₁ Bd.exec Bd.bytes hml0 (findClass_of_methodNamed Bd.named) (name_of_methodNamed Bd.named Bd.method).1 Bd.returns Bd.notSynchronized hZ (Stand.of_body Bd) (by rw [← hh, Bd.state]; rfl) ((State.WarmedH.refl s).since 0) hJ
  rw [← ef m] at k
  exact k
/-- a contract that loads no constant is one that may -/
theorem own_Con.wide {y : MethodName} {bytes : ByteArray} {maxL : Nat} {ret : Option FieldType} {rm : Room} {as' : Array Value} {Q : Option Value → Heap → List Loc → Prop} {J : Vm → Prop} (K : own_Con l Z y bytes maxL ret rm as' h Q) : own_ConW l Z J y bytes maxL ret rm as' h Q := fun ws =>
  MetFree.mono (K ws) (fun _ _ q => ⟨q.1, q.2.1, q.2.2.1⟩) (fun _ _ _ _ _ q => q) (fun _ _ _ _ _ ⟨v, L, h1, h2, h3, h4, h5⟩ => ⟨v, L, h1, h2, ReturnedEndW.of_narrow h3 h4 h5⟩)
theorem own_retW {rm : Room} {Q : Option Value → Heap → List Loc → Prop} (X : Stand p l e R (s.setVm vm0) m args below meth c T locs cells slots) {k0 : Nat} (hS : s.Since vm0 k0) (hk : k0 ≤ h.size) (hlk : meth.locks = false) {v : Option Value} (hv : meth.sig.returnType = none → v = none) {g : JFrame}
    (st : ∀ fs, (∀ (f : JFrame) (acts : List Action), f.method = m → f.locked = none → f.entered = [] → (doReturn e (T.setTop f) acts v).1 = T.setFrames fs) → Steps p.tables e below (T.setTop g) (T.setFrames fs))
    (eT : T.heap = h) (hQ : Q v h locs) (hc : cells ≤ rm.cells) (hs : slots ≤ rm.slots) : own_Fin p e below (own_PostW s rm Q) T g := by
  obtain ⟨fs, hr, hrun, hended, q1, q2, q3, q4⟩ := X.leaveW hS (by rw [eT]; exact hk) hv hlk
  refine ⟨_, _, st fs hr, hrun, hended, v, locs, rfl, ?_, q1, q2, q3, q4.mono hc hs⟩
  show Q v T.heap locs
  rw [eT]; exact hQ
theorem own_retVW {rm : Room} {Q : Option Value → Heap → List Loc → Prop} (X : Stand p l e R (s.setVm vm0) m args below meth c T locs cells slots) (hx : p.tables.exec = Jvm.exec) {k0 : Nat} (hS : s.Since vm0 k0) (hk : k0 ≤ h.size) (hlk : meth.locks = false) (hret : meth.sig.returnType = none) {pc : Nat} {Ls : Array Slot} (hd : decode c.code pc = .ok (.return_, 1))
    (eT : T.heap = h) (hQ : Q none h locs) (hc : cells ≤ rm.cells) (hs : slots ≤ rm.slots) : own_Fin p e below (own_PostW s rm Q) T (mkF m pc Ls []) :=
  own_retW X hS hk hlk (fun _ => rfl) (fun fs hr => X.returnOut hx hret hd hr) eT hQ hc hs
theorem own_retNW {rm : Room} {Q : Option Value → Heap → List Loc → Prop} (X : Stand p l e R (s.setVm vm0) m args below meth c T locs cells slots) (hx : p.tables.exec = Jvm.exec) {k0 : Nat} (hS : s.Since vm0 k0) (hk : k0 ≤ h.size) (hlk : meth.locks = false) {t : FieldType} (hret : meth.sig.returnType = some t) (ht : t = .boolean ∨ t = .byte ∨ t = .char ∨ t = .short) {pc : Nat} {Ls : Array Slot} {z : Int32} {rest : List Value} (hd : decode c.code pc = .ok (.ireturn, 1))
    (eT : T.heap = h) (hQ : Q (some (.int (nar t z))) h locs) (hc : cells ≤ rm.cells) (hs : slots ≤ rm.slots) : own_Fin p e below (own_PostW s rm Q) T (mkF m pc Ls (.int z :: rest)) :=
  own_retW X hS hk hlk (fun q => by rw [hret] at q; cases q) (fun fs hr => retN X hx hret ht hd hr) eT hQ hc hs
theorem own_retIW {rm : Room} {Q : Option Value → Heap → List Loc → Prop} (X : Stand p l e R (s.setVm vm0) m args below meth c T locs cells slots) (hx : p.tables.exec = Jvm.exec) {k0 : Nat} (hS : s.Since vm0 k0) (hk : k0 ≤ h.size) (hlk : meth.locks = false) (hret : meth.sig.returnType = some .int) {pc : Nat} {Ls : Array Slot} {z : Int32} {rest : List Value} (hd : decode c.code pc = .ok (.ireturn, 1))
    (eT : T.heap = h) (hQ : Q (some (.int z)) h locs) (hc : cells ≤ rm.cells) (hs : slots ≤ rm.slots) : own_Fin p e below (own_PostW s rm Q) T (mkF m pc Ls (.int z :: rest)) :=
  own_retW X hS hk hlk (fun q => by rw [hret] at q; cases q) (fun fs hr => retOut X hx hret rfl (Or.inl ⟨rfl, Or.inl rfl, z, rfl⟩) hd hr) eT hQ hc hs
theorem own_retAW {rm : Room} {Q : Option Value → Heap → List Loc → Prop} (X : Stand p l e R (s.setVm vm0) m args below meth c T locs cells slots) (hx : p.tables.exec = Jvm.exec) {k0 : Nat} (hS : s.Since vm0 k0) (hk : k0 ≤ h.size) (hlk : meth.locks = false) {t : FieldType} (hret : meth.sig.returnType = some t) {w : Value} (hn : narrow t w = w) (ht : t.isReference = true) (hw : w.isRef = true) {pc : Nat} {Ls : Array Slot} {rest : List Value} (hd : decode c.code pc = .ok (.areturn, 1))
    (eT : T.heap = h) (hQ : Q (some w) h locs) (hc : cells ≤ rm.cells) (hs : slots ≤ rm.slots) : own_Fin p e below (own_PostW s rm Q) T (mkF m pc Ls (w :: rest)) :=
  own_retW X hS hk hlk (fun q => by rw [hret] at q; cases q) (fun fs hr => retOut X hx hret hn (Or.inr (Or.inr (Or.inr (Or.inr ⟨rfl, ht, hw⟩)))) hd hr) eT hQ hc hs
/-- who pays a call of such a callee -/
theorem own_backW {J : Vm → Prop} {y : MethodName} {bytes : ByteArray} {maxL : Nat} {ret : Option FieldType} {rm : Room} {len W : Nat} {as' : Array Value} {Q : Option Value → Heap → List Loc → Prop} (K : own_ConW l Z J y bytes maxL ret rm as' h Q)
    (hZ : Z.Warmed39 s.vm) (wc : (Cond.code y bytes maxL ret).before a0 Z = true) (wz : (Cond.initialized y.cls).before a0 Z = true) (hf : rm.frames + 1 ≤ R.frames) (hl : W + (maxL + 11) + rm.locals ≤ R.locals)
    (hJ : ∀ (m : MethodId) (meth : Method) (c : Code) (A : Pt), Stand p l e R s m args below meth c A.U A.locs A.cells A.slots → J A.U.vm) :
    BackS l R p e below s args y len W (fun A a => a = as' ∧ A.U.heap = h ∧ A.cells + rm.cells ≤ R.cells ∧ A.slots + rm.slots ≤ R.slots)
      (fun A _ v B => ∃ L, Q v B.U.heap L ∧ B.locs = A.locs ++ L ∧ B.cells = A.cells + rm.cells ∧ B.slots = A.slots + rm.slots) :=
  BackS.of_freeW (bytes := bytes) (maxL := maxL) (ret := ret) (E := fun _ _ o t L k n => k = rm.cells ∧ n = rm.slots ∧ ∃ v, o = .returned v ∧ Q v t.heap L) (K []) hf hl
    (fun m meth c A a Y hp => have hU : Z.Warmed39 A.U.vm := wtrans hZ Y.warmed
      ⟨by show (Cond.and _ .tt).before a A.U = true; rw [Cond.before_and, mv hU wc]; rfl, mv hU wc, mv hU wz, hp.2.2.1, hp.2.2.2⟩)
    (fun m meth c A a g mk Y hp => ⟨hp.1, wtrans hZ Y.warmed, hp.2.1, hJ m meth c A Y⟩) (fun _ _ _ _ _ _ _ _ _ => trivial)
    (fun _ _ _ _ ⟨v, L, h1, h2, h3⟩ => ⟨L, _, _, h3, rfl, rfl, v, h1, h2⟩)
    (fun m meth c A a g mk v t L k n Y hp _ _ ⟨e1, e2, v', e3, e4⟩ => by cases e3; subst e1 e2; exact ⟨L, e4, rfl, rfl, rfl⟩)
/-- a constructor that may load constants -/
theorem own_callCW {J : Vm → Prop} {y : MethodName} {bytes : ByteArray} {maxL : Nat} {rm : Room} {Q : Option Value → Heap → List Loc → Prop} {own : String} {index W : Nat} (X : Stand p l e R (s.setVm vm0) m args below meth c T locs cells slots) (hx : p.tables.exec = Jvm.exec) (hZ : Z.Warmed39 vm0) (hown : vm0.findClass own = some m.cls) {k0 : Nat} (hS : s.Since vm0 k0) (hk : k0 ≤ h.size) (hy1 : y.name = "<init>")
    (w1 : (Cond.methodLink own index y).before a0 Z = true) (w2 : (Cond.instanceMethod y).before a0 Z = true) (wc : (Cond.code y bytes maxL none).before a0 Z = true) (wz : (Cond.initialized y.cls).before a0 Z = true) (hy : y.cls ≠ "java/lang/invoke/MethodHandle" ∧ y.cls ≠ "java/lang/invoke/VarHandle")
    {a : Addr} {g : JFrame} (hg : g.method = m) (hsize : g.locals.size = c.maxLocals) {argsL rest : List Value} (K : own_ConW l Z J y bytes maxL none rm (.ref a :: argsL).toArray h Q) (hJ : ∀ (m : MethodId) (meth : Method) (c : Code) (A : Pt), Stand p l e R (s.setVm vm0) m args below meth c A.U A.locs A.cells A.slots → J A.U.vm) (eT : T.heap = h) {ps : List FieldType} {r : Option FieldType} (hpd : parseMethodDescriptor y.desc = some ⟨ps, r⟩) (hlen : argsL.length = ps.length) (hstack : g.stack = argsL.reverse ++ .ref a :: rest) (hW : 2 * g.monitorRoom + (rest.map fun v => v.category).sum ≤ W)
    (hdg : decode c.code g.pc = .ok (.invokespecial index, 3)) (hf : rm.frames + 1 ≤ R.frames) (hl : W + (maxL + 11) + rm.locals ≤ R.locals) (hcc : cells + rm.cells ≤ R.cells) (hss : slots + rm.slots ≤ R.slots) :
    ∃ (T' : State) (L : List Loc) (v : Option Value) (h' : Heap), Stand p l e R (s.setVm T'.vm) m args below meth c T' (locs ++ L) (cells + rm.cells) (slots + rm.slots) ∧ T'.heap = h' ∧ s.Since T'.vm h'.size ∧ Z.Warmed39 T'.vm ∧ T'.vm.findClass own = some m.cls ∧ Q v h' L ∧ ∀ t, Steps p.tables e below (T'.setTop { g with pc := g.pc + 3, stack := v.toList ++ rest }) t → Steps p.tables e below (T.setTop g) t := by
  obtain ⟨v, _, ⟨T', L', k', n'⟩, -, X', S', G', ⟨L, hQ, l1, l2, l3⟩, st⟩ := X.specialBackS hx hy1 hown (mvT (s := s.setVm vm0) hZ w1) (mvT (s := s.setVm vm0) hZ w2) (mvT (s := s.setVm vm0) hZ wc) hy (own_backW (s := s.setVm vm0) K hZ wc wz hf hl hJ) hg hsize (Steps.refl _) (a := a) (argsL := argsL) (rest := rest) (lenOf hpd hlen) hstack hW hdg (fun _ _ => ⟨rfl, eT, hcc, hss⟩)
  dsimp only [Pt.U, Pt.locs, Pt.cells, Pt.slots] at X' l1 l2 l3 st hQ S' G'
  subst l1 l2 l3
  obtain ⟨r1, r2, r3, r4⟩ := rebS hS (by rw [← eT] at hk; exact hk) X' S' G' hZ hown
  exact ⟨T', L, v, _, r1, rfl, r2, r3, r4, hQ, fun t k => st.trans k⟩
/-- a static method that may -/
theorem own_callSW {J : Vm → Prop} {y : MethodName} {bytes : ByteArray} {maxL : Nat} {ret : Option FieldType} {rm : Room} {Q : Option Value → Heap → List Loc → Prop} {own : String} {index W : Nat} (X : Stand p l e R (s.setVm vm0) m args below meth c T locs cells slots) (hx : p.tables.exec = Jvm.exec) (hZ : Z.Warmed39 vm0) (hown : vm0.findClass own = some m.cls) {k0 : Nat} (hS : s.Since vm0 k0) (hk : k0 ≤ h.size)
    (w1 : (Cond.methodLink own index y).before a0 Z = true) (w2 : (Cond.static y).before a0 Z = true) (wc : (Cond.code y bytes maxL ret).before a0 Z = true) (wz : (Cond.initialized y.cls).before a0 Z = true) (hy : y.cls ≠ "java/lang/invoke/MethodHandle" ∧ y.cls ≠ "java/lang/invoke/VarHandle")
    {g : JFrame} (hg : g.method = m) (hsize : g.locals.size = c.maxLocals) {argsL rest : List Value} (K : own_ConW l Z J y bytes maxL ret rm argsL.toArray h Q) (hJ : ∀ (m : MethodId) (meth : Method) (c : Code) (A : Pt), Stand p l e R (s.setVm vm0) m args below meth c A.U A.locs A.cells A.slots → J A.U.vm) (eT : T.heap = h) {ps : List FieldType} {r : Option FieldType} (hpd : parseMethodDescriptor y.desc = some ⟨ps, r⟩) (hlen : argsL.length = ps.length) (hstack : g.stack = argsL.reverse ++ rest) (hW : 2 * g.monitorRoom + (rest.map fun v => v.category).sum ≤ W)
    (hdg : decode c.code g.pc = .ok (.invokestatic index, 3)) (hf : rm.frames + 1 ≤ R.frames) (hl : W + (maxL + 11) + rm.locals ≤ R.locals) (hcc : cells + rm.cells ≤ R.cells) (hss : slots + rm.slots ≤ R.slots) :
    ∃ (T' : State) (L : List Loc) (v : Option Value) (h' : Heap), Stand p l e R (s.setVm T'.vm) m args below meth c T' (locs ++ L) (cells + rm.cells) (slots + rm.slots) ∧ T'.heap = h' ∧ s.Since T'.vm h'.size ∧ Z.Warmed39 T'.vm ∧ T'.vm.findClass own = some m.cls ∧ Q v h' L ∧ ∀ t, Steps p.tables e below (T'.setTop { g with pc := g.pc + 3, stack := v.toList ++ rest }) t → Steps p.tables e below (T.setTop g) t := by
  obtain ⟨v, _, ⟨T', L', k', n'⟩, -, X', S', G', ⟨L, hQ, l1, l2, l3⟩, st⟩ := callSS X hx hown (mvT (s := s.setVm vm0) hZ w1) (mvT (s := s.setVm vm0) hZ w2) (mvT (s := s.setVm vm0) hZ wz) (mvT (s := s.setVm vm0) hZ wc) hy (own_backW (s := s.setVm vm0) K hZ wc wz hf hl hJ) hg hsize (argsL := argsL) (rest := rest) (lenOf hpd hlen) hstack hW hdg (fun _ _ => ⟨rfl, eT, hcc, hss⟩)
  dsimp only [Pt.U, Pt.locs, Pt.cells, Pt.slots] at X' l1 l2 l3 st hQ S' G'
  subst l1 l2 l3
  obtain ⟨r1, r2, r3, r4⟩ := rebS hS (by rw [← eT] at hk; exact hk) X' S' G' hZ hown
  exact ⟨T', L, v, _, r1, rfl, r2, r3, r4, hQ, fun t k => st.trans k⟩
end OwnWide
end Jvm.RoadKit
/- laws to paste: Road.backV (cut by pick.py; bodies as the Statement names them) -/
namespace Jvm.Pilot.@@N@@
namespace StrChars
open Jvm Sem ClassFile Op Lib Jvm.Stand Jvm.Free.XT Jvm.Free.ALB Jvm.Free.JM Jvm.Free
open Jvm.Lib.Cold (StaticIs)
/-- a char array whose places are chars -/
def Ch (a : Addr) (A : Cell) (U : State) : Prop := Arr .char a A U ∧ Typed .char A
theorem Ch.mv {a : Addr} {A : Cell} {U U' : State} (h : Ch a A U) (hal : U.vm.Alike U'.vm) (hh : U'.heap = U.heap) : Ch a A U' := ⟨h.1.mv hal hh, h.2⟩
theorem Ch.keep {a : Addr} {A : Cell} {U U' : State} (h : Ch a A U) (hal : U.vm.Alike U'.vm) (hk : U'.heap[a]? = some A) : Ch a A U' := ⟨h.1.keep hal hk, h.2⟩
/-- what place i of a char[]'s cell holds -/
def cv (A : Cell) (i : Nat) : Int32 := match A.slots[i]? with | some (.int x) => x | _ => 0
theorem Ch.get {a : Addr} {A : Cell} {U : State} (h : Ch a A U) {i : Nat} (hi : i < A.slots.size) : A.slots[i]? = some (.int (cv A i)) := by
  have e := Array.getElem?_eq_getElem hi
  have f := h.2 i _ e
  unfold cv; rw [e]
  generalize A.slots[i] = v at f
  cases v <;> simp [fits] at f ⊢
/-- the byte that i2b leaves of a char -/
def lo8 (x : Int32) : Int32 := x.toInt8.toInt32
theorem fits_lo8 (y : Int32) : fits .byte (.int (lo8 y)) = true := by
  have h1 := y.toInt8.le_toInt
  have h2 := y.toInt8.toInt_lt
  simp only [lo8, fits, Bool.and_eq_true, decide_eq_true_eq, Int32.le_iff_toInt_le, Int8.toInt_toInt32, show (-128 : Int32).toInt = -128 from by decide, show (127 : Int32).toInt = 127 from by decide]
  omega
/-- A' is A but that each place j of lo .. hi - 1 holds f j -/
def Laid (A A' : Cell) (lo hi : Nat) (f : Nat → Value) : Prop := A'.cls = A.cls ∧ A'.vm = A.vm ∧ A'.slots.size = A.slots.size ∧ ∀ i, A'.slots[i]? = if lo ≤ i ∧ i < hi then some (f i) else A.slots[i]?
theorem Laid.zero (A : Cell) (lo : Nat) (f : Nat → Value) : Laid A A lo (lo + 0) f := ⟨rfl, rfl, rfl, fun i => by rw [if_neg (by omega)]⟩
theorem Laid.step {A Ak : Cell} {lo k : Nat} {f : Nat → Value} {v : Value} (h : Laid A Ak lo k f) (hlo : lo ≤ k) (hk : k < Ak.slots.size) (hv : v = f k) : Laid A (Ak.setSlot k v) lo (k + 1) f := by
  refine ⟨h.1, h.2.1, by simpa [Cell.setSlot] using h.2.2.1, fun i => ?_⟩
  by_cases e : k = i
  · subst e; rw [Cell.slots_setSlot_self v hk, if_pos (by omega), hv]
  · rw [Cell.slots_setSlot_ne v e, h.2.2.2 i]
    by_cases q : lo ≤ i ∧ i < k
    · rw [if_pos q, if_pos (by omega)]
    · rw [if_neg q, if_neg (by omega)]
def U16 : String := "java/lang/StringUTF16"
namespace Cmp5
def yN : MethodName := ⟨"java/lang/StringUTF16", "compress", "([CI[BII)I"⟩
abbrev yB : ByteArray := jdk_52_method_21_code
theorem d0 : decode yB 0 = .ok (.iconst 0, 1) := by decide +kernel
theorem d1 : decode yB 1 = .ok (.istore 5, 2) := by decide +kernel
theorem d3 : decode yB 3 = .ok (.iload 5, 2) := by decide +kernel
theorem d5 : decode yB 5 = .ok (.iload 4, 2) := by decide +kernel
theorem d7 : decode yB 7 = .ok (.if_icmp (.ge) 37, 3) := by decide +kernel
theorem d10 : decode yB 10 = .ok (.aload_n 0, 1) := by decide +kernel
theorem d11 : decode yB 11 = .ok (.iload_n 1, 1) := by decide +kernel
theorem d12 : decode yB 12 = .ok (.caload, 1) := by decide +kernel
theorem d13 : decode yB 13 = .ok (.istore 6, 2) := by decide +kernel
theorem d15 : decode yB 15 = .ok (.iload 6, 2) := by decide +kernel
theorem d17 : decode yB 17 = .ok (.sipush 255, 3) := by decide +kernel
theorem d20 : decode yB 20 = .ok (.if_icmp (.le) 6, 3) := by decide +kernel
theorem d26 : decode yB 26 = .ok (.aload_n 2, 1) := by decide +kernel
theorem d27 : decode yB 27 = .ok (.iload_n 3, 1) := by decide +kernel
theorem d28 : decode yB 28 = .ok (.iload 6, 2) := by decide +kernel
theorem d30 : decode yB 30 = .ok (.i2b, 1) := by decide +kernel
theorem d31 : decode yB 31 = .ok (.bastore, 1) := by decide +kernel
theorem d32 : decode yB 32 = .ok (.iinc 1 1, 3) := by decide +kernel
theorem d35 : decode yB 35 = .ok (.iinc 3 1, 3) := by decide +kernel
theorem d38 : decode yB 38 = .ok (.iinc 5 1, 3) := by decide +kernel
theorem d41 : decode yB 41 = .ok (.goto (-38), 3) := by decide +kernel
theorem d44 : decode yB 44 = .ok (.iload 4, 2) := by decide +kernel
theorem d46 : decode yB 46 = .ok (.ireturn, 1) := by decide +kernel
def site : List Cond := []
def tab : Cond := tabOf yN yB 7 (some .int) site
def P (b : Addr) (A : Cell) (d : Addr) (B : Cell) (o q len : Nat) (args : Array Value) (s : State) : Prop := args = #[.ref b, .int (Int32.ofNat o), .ref d, .int (Int32.ofNat q), .int (Int32.ofNat len)] ∧ Ch b A s ∧ Arr .byte d B s ∧ b ≠ d ∧ o + len ≤ A.slots.size ∧ q + len ≤ B.slots.size ∧ ∀ i, i < len → ¬ 255 < cv A (o + i)
def E (b : Addr) (A : Cell) (d : Addr) (B : Cell) (o q len : Nat) (r : Option Value) (s u : State) : Prop := r = some (.int (Int32.ofNat len)) ∧ ∃ B', Put d B' s u ∧ Laid B B' q (q + len) (fun j => Value.int (lo8 (cv A (o + (j - q)))))
/-- no char of the range above 255: len; the places written hold each char's low byte -/
theorem law (l : Launch) (b : Addr) (A : Cell) (d : Addr) (B : Cell) (o q len : Nat) : Law l yN 5 5 0 0 yB 7 (some .int) site (P b A d B o q len) (E b A d B o q len) (copyLocs d q len) 0 0 := by
  refine Law.of_walk (plainFor_of_name (by decide +kernel)) (by decide +kernel) (by decide +kernel) (by decide) (fun _ _ h => by rw [h.1]; rfl) (fun _ U U' hal hh h => ⟨h.1, h.2.1.mv hal hh, h.2.2.1.mv hal hh, h.2.2.2⟩) (fun r U U' V V' h1 hal h2 h => ⟨h.1, h.2.elim fun B' q => ⟨B', q.1.mv h1 h2, q.2⟩⟩) ?_
  intro p e s m args below meth c s₁ X0 hexec hbytes hml hret hlk hnm hown hh0 W hP
  obtain ⟨rfl, hA, hB, hne, l1, l2, hp⟩ := hP
  have c1 : Steps p.tables e below (s₁.setTop (entryFrame m #[.ref b, .int (Int32.ofNat o), .ref d, .int (Int32.ofNat q), .int (Int32.ofNat len)] 7)) (s₁.setTop (mkF m 0 #[.val (.ref b), .val (.int (Int32.ofNat o)), .val (.ref d), .val (.int (Int32.ofNat q)), .val (.int (Int32.ofNat len)), .unset, .unset] [])) := entry rfl
  have hA0 := hA.1.mv X0.warmed.alike hh0
  have hB0 := hB.mv X0.warmed.alike hh0
  have a31 := hA.1.2.2.2
  have c2 : Steps p.tables e below (s₁.setTop (entryFrame m #[.ref b, .int (Int32.ofNat o), .ref d, .int (Int32.ofNat q), .int (Int32.ofNat len)] 7)) (s₁.setTop (mkF m 3 #[.val (.ref b), .val (.int (Int32.ofNat o)), .val (.ref d), .val (.int (Int32.ofNat q)), .val (.int (Int32.ofNat len)), .val (.int 0), .unset] [])) := c1.trans (by
    refine iconstV X0.here hexec rfl 0 (hb hbytes d0) (by decide) ?_
    refine XS.istore X0.here hexec rfl (hb hbytes d1) rfl rfl ?_
    exact Steps.refl _)
  have loop : ∀ (r i : Nat), i + r = len → ∀ (z : Slot), (z = .unset ∨ ∃ w, z = .val w ∧ w.category = 1) → ∀ (Tl : State) (Bk : Cell), Stand p l e { frames := 0, locals := 0, cells := 0, slots := 0 } s m #[.ref b, .int (Int32.ofNat o), .ref d, .int (Int32.ofNat q), .int (Int32.ofNat len)] below meth c Tl ([] ++ copyLocs d q i) 0 0 → Put d Bk s₁ Tl → Laid B Bk q (q + i) (fun j => Value.int (lo8 (cv A (o + (j - q))))) →
      Steps p.tables e below (s₁.setTop (entryFrame m #[.ref b, .int (Int32.ofNat o), .ref d, .int (Int32.ofNat q), .int (Int32.ofNat len)] 7)) (Tl.setTop (mkF m 3 #[.val (.ref b), .val (.int (Int32.ofNat (o + i))), .val (.ref d), .val (.int (Int32.ofNat (q + i))), .val (.int (Int32.ofNat len)), .val (.int (Int32.ofNat i)), z] [])) → ∃ (T' : State) (B' : Cell) (z' : Slot), Stand p l e { frames := 0, locals := 0, cells := 0, slots := 0 } s m #[.ref b, .int (Int32.ofNat o), .ref d, .int (Int32.ofNat q), .int (Int32.ofNat len)] below meth c T' ([] ++ copyLocs d q len) 0 0 ∧ Put d B' s₁ T' ∧ Laid B B' q (q + len) (fun j => Value.int (lo8 (cv A (o + (j - q))))) ∧
      Steps p.tables e below (s₁.setTop (entryFrame m #[.ref b, .int (Int32.ofNat o), .ref d, .int (Int32.ofNat q), .int (Int32.ofNat len)] 7)) (T'.setTop (mkF m 3 #[.val (.ref b), .val (.int (Int32.ofNat (o + len))), .val (.ref d), .val (.int (Int32.ofNat (q + len))), .val (.int (Int32.ofNat len)), .val (.int (Int32.ofNat len)), z'] [])) := by
    intro r
    induction r with
    | zero =>
      intro i hi z hz Tl Bk Xl pl fl cl
      have hil : i = len := by omega
      rw [hil] at Xl fl cl
      exact ⟨Tl, Bk, z, Xl, pl, fl, cl⟩
    | succ r ih =>
      intro i hi z hz Tl Bk Xl pl fl cl
      have all := X0.warmed.alike.symm.trans Xl.warmed.alike
      have hAl := hA0.keep all (pl.other hne hA0.1)
      have hBk := hB0.like all pl.1 fl.1 fl.2.1 fl.2.2.1
      have hlt : q + i < Bk.slots.size := by rw [fl.2.2.1]; omega
      have c3 : Steps p.tables e below (s₁.setTop (entryFrame m #[.ref b, .int (Int32.ofNat o), .ref d, .int (Int32.ofNat q), .int (Int32.ofNat len)] 7)) (Tl.setTop (mkF m 12 #[.val (.ref b), .val (.int (Int32.ofNat (o + i))), .val (.ref d), .val (.int (Int32.ofNat (q + i))), .val (.int (Int32.ofNat len)), .val (.int (Int32.ofNat i)), z] [.int (Int32.ofNat (o + i)), .ref b])) := cl.trans (by
        refine XS.iload Xl.here hexec rfl (hb hbytes d3) rfl ?_
        refine XS.iload Xl.here hexec rfl (hb hbytes d5) rfl ?_
        refine XS.icmpNo Xl.here hexec rfl (hb hbytes d7) rfl (ii_ge_f (lt32 (by omega) (by omega))) ?_
        refine XS.aloadN Xl.here hexec rfl (hb hbytes d10) rfl rfl ?_
        refine XS.iloadN Xl.here hexec rfl (hb hbytes d11) rfl ?_
        exact Steps.refl _)
      have c4 : Steps p.tables e below (s₁.setTop (entryFrame m #[.ref b, .int (Int32.ofNat o), .ref d, .int (Int32.ofNat q), .int (Int32.ofNat len)] 7)) (Tl.setTop (mkF m 13 #[.val (.ref b), .val (.int (Int32.ofNat (o + i))), .val (.ref d), .val (.int (Int32.ofNat (q + i))), .val (.int (Int32.ofNat len)), .val (.int (Int32.ofNat i)), z] [.int (cv A (o + i))])) := c3.trans (by
        refine Xl.aget hexec hAl rfl (hA.get (i := o + i) (by omega)) rfl rfl (hb hbytes d12) ?_
        exact Steps.refl _)
      have c5 : Steps p.tables e below (s₁.setTop (entryFrame m #[.ref b, .int (Int32.ofNat o), .ref d, .int (Int32.ofNat q), .int (Int32.ofNat len)] 7)) (Tl.setTop (mkF m 15 #[.val (.ref b), .val (.int (Int32.ofNat (o + i))), .val (.ref d), .val (.int (Int32.ofNat (q + i))), .val (.int (Int32.ofNat len)), .val (.int (Int32.ofNat i)), .val (.int (cv A (o + i)))] [])) := c4.trans (by
        refine XS.istoreS Xl.here hexec rfl (hb hbytes d13) rfl rfl hz ?_
        exact Steps.refl _)
      have c6 : Steps p.tables e below (s₁.setTop (entryFrame m #[.ref b, .int (Int32.ofNat o), .ref d, .int (Int32.ofNat q), .int (Int32.ofNat len)] 7)) (Tl.setTop (mkF m 31 #[.val (.ref b), .val (.int (Int32.ofNat (o + i))), .val (.ref d), .val (.int (Int32.ofNat (q + i))), .val (.int (Int32.ofNat len)), .val (.int (Int32.ofNat i)), .val (.int (cv A (o + i)))] [.int (lo8 (cv A (o + i))), .int (Int32.ofNat (q + i)), .ref d])) := c5.trans (by
        refine XS.iload Xl.here hexec rfl (hb hbytes d15) rfl ?_
        refine sipushV Xl.here hexec rfl 255 (hb hbytes d17) (by decide) ?_
        refine XS.icmpYes Xl.here hexec rfl (pc0 := 20) rfl (hb hbytes d20) rfl (ii_le_t (hp i (by omega))) (by decide) rfl ?_
        refine XS.aloadN Xl.here hexec rfl (hb hbytes d26) rfl rfl ?_
        refine XS.iloadN Xl.here hexec rfl (hb hbytes d27) rfl ?_
        refine XS.iload Xl.here hexec rfl (hb hbytes d28) rfl ?_
        refine i2b Xl.here hexec rfl (hb hbytes d30) rfl ?_
        exact Steps.refl _)
      obtain ⟨T7, X7, p7, st7⟩ := Xl.aput hexec hBk rfl hlt rfl (fits_lo8 (cv A (o + i))) (g := (mkF m 31 #[.val (.ref b), .val (.int (Int32.ofNat (o + i))), .val (.ref d), .val (.int (Int32.ofNat (q + i))), .val (.int (Int32.ofNat len)), .val (.int (Int32.ofNat i)), .val (.int (cv A (o + i)))] [.int (lo8 (cv A (o + i))), .int (Int32.ofNat (q + i)), .ref d])) rfl (rest := []) rfl (hb hbytes d31)
      have c8 : Steps p.tables e below (s₁.setTop (entryFrame m #[.ref b, .int (Int32.ofNat o), .ref d, .int (Int32.ofNat q), .int (Int32.ofNat len)] 7)) (T7.setTop (mkF m 32 #[.val (.ref b), .val (.int (Int32.ofNat (o + i))), .val (.ref d), .val (.int (Int32.ofNat (q + i))), .val (.int (Int32.ofNat len)), .val (.int (Int32.ofNat i)), .val (.int (cv A (o + i)))] [])) := c6.trans (st7 _ (Steps.refl _))
      have c9 : Steps p.tables e below (s₁.setTop (entryFrame m #[.ref b, .int (Int32.ofNat o), .ref d, .int (Int32.ofNat q), .int (Int32.ofNat len)] 7)) (T7.setTop (mkF m 3 #[.val (.ref b), .val (.int (Int32.ofNat (o + i) + 1)), .val (.ref d), .val (.int (Int32.ofNat (q + i) + 1)), .val (.int (Int32.ofNat len)), .val (.int (Int32.ofNat i + 1)), .val (.int (cv A (o + i)))] [])) := c8.trans (by
        refine iincV X7.here hexec rfl 1 (hb hbytes d32) (by decide) rfl rfl ?_
        refine iincV X7.here hexec rfl 1 (hb hbytes d35) (by decide) rfl rfl ?_
        refine iincV X7.here hexec rfl 1 (hb hbytes d38) (by decide) rfl rfl ?_
        refine XS.goto X7.here hexec rfl (pc0 := 41) rfl (hb hbytes d41) (by decide) rfl ?_
        exact Steps.refl _)
      have c10 : Steps p.tables e below (s₁.setTop (entryFrame m #[.ref b, .int (Int32.ofNat o), .ref d, .int (Int32.ofNat q), .int (Int32.ofNat len)] 7)) (T7.setTop (mkF m 3 #[.val (.ref b), .val (.int (Int32.ofNat (o + (i + 1)))), .val (.ref d), .val (.int (Int32.ofNat (q + (i + 1)))), .val (.int (Int32.ofNat len)), .val (.int (Int32.ofNat (i + 1))), .val (.int (cv A (o + i)))] [])) := by
        have := c9
        rw [succ32, succ32, succ32] at this
        exact this
      exact ih (i + 1) (by omega) _ (Or.inr ⟨_, rfl, rfl⟩) T7 _ (by rw [copyLocs_step, ← List.append_assoc]; exact X7) (pl.trans p7) (fl.step (by omega) hlt (by simp)) c10
  obtain ⟨T9, B9, z9, X9, p9, f9, g9⟩ := loop len 0 (by omega) .unset (Or.inl rfl) s₁ B (by simpa [copyLocs] using X0) ⟨hB0.1, fun _ _ => rfl, rfl⟩ (Laid.zero _ _ _) c2
  have c11 : Steps p.tables e below (s₁.setTop (entryFrame m #[.ref b, .int (Int32.ofNat o), .ref d, .int (Int32.ofNat q), .int (Int32.ofNat len)] 7)) (T9.setTop (mkF m 46 #[.val (.ref b), .val (.int (Int32.ofNat (o + len))), .val (.ref d), .val (.int (Int32.ofNat (q + len))), .val (.int (Int32.ofNat len)), .val (.int (Int32.ofNat len)), z9] [.int (Int32.ofNat len)])) := g9.trans (by
    refine XS.iload X9.here hexec rfl (hb hbytes d3) rfl ?_
    refine XS.iload X9.here hexec rfl (hb hbytes d5) rfl ?_
    refine XS.icmpYes X9.here hexec rfl (pc0 := 7) rfl (hb hbytes d7) rfl (ii_ge_t (nlt32 (by omega) (Nat.le_refl _))) (by decide) rfl ?_
    refine XS.iload X9.here hexec rfl (hb hbytes d44) rfl ?_
    exact Steps.refl _)
  exact ⟨T9, some (.int (Int32.ofNat len)), _, _, _, X9, by simp, rfl, rfl, (fun h => by cases h), ⟨rfl, B9, p9.from hh0, f9⟩, fun fs hl => c11.trans (X9.ireturnOut hexec hret rfl (Or.inl rfl) (hb hbytes d46) hl)⟩
end Cmp5
namespace Cmp3
def yN : MethodName := ⟨"java/lang/StringUTF16", "compress", "([CII)[B"⟩
abbrev yB : ByteArray := jdk_52_method_16_code
theorem d0 : decode yB 0 = .ok (.iload_n 2, 1) := by decide +kernel
theorem d1 : decode yB 1 = .ok (.newarray .byte, 2) := by decide +kernel
theorem d3 : decode yB 3 = .ok (.astore_n 3, 1) := by decide +kernel
theorem d4 : decode yB 4 = .ok (.aload_n 0, 1) := by decide +kernel
theorem d5 : decode yB 5 = .ok (.iload_n 1, 1) := by decide +kernel
theorem d6 : decode yB 6 = .ok (.aload_n 3, 1) := by decide +kernel
theorem d7 : decode yB 7 = .ok (.iconst 0, 1) := by decide +kernel
theorem d8 : decode yB 8 = .ok (.iload_n 2, 1) := by decide +kernel
theorem d9 : decode yB 9 = .ok (.invokestatic 115, 3) := by decide +kernel
theorem d12 : decode yB 12 = .ok (.istore 4, 2) := by decide +kernel
theorem d14 : decode yB 14 = .ok (.iload 4, 2) := by decide +kernel
theorem d16 : decode yB 16 = .ok (.iload_n 2, 1) := by decide +kernel
theorem d17 : decode yB 17 = .ok (.if_icmp (.eq) 40, 3) := by decide +kernel
theorem d57 : decode yB 57 = .ok (.aload_n 3, 1) := by decide +kernel
theorem d58 : decode yB 58 = .ok (.areturn, 1) := by decide +kernel
def site : List Cond := [.arrayClass .byte, Cmp5.tab] ++ staticW U16 115 Cmp5.yN
def tab : Cond := tabOf yN yB 6 (some (.array .byte)) site
def P (b : Addr) (A : Cell) (o len : Nat) (args : Array Value) (s : State) : Prop := args = #[.ref b, .int (Int32.ofNat o), .int (Int32.ofNat len)] ∧ Ch b A s ∧ o + len ≤ A.slots.size ∧ len ≤ 536870912 ∧ ∀ i, i < len → ¬ 255 < cv A (o + i)
def E (b : Addr) (A : Cell) (o len : Nat) (r : Option Value) (s u : State) : Prop := NewArr .byte "[B" len (fun j => .int (lo8 (cv A (o + j)))) r s u ∧ u.heap.size = s.heap.size + 1
/-- no char of the range above 255: a new byte[] of their low bytes -/
theorem law (l : Launch) (b : Addr) (A : Cell) (o len : Nat) : Law l yN 3 3 1 18 yB 6 (some (.array .byte)) site (P b A o len) (E b A o len) [] 1 len := by
  refine Law.of_walk (plainFor_of_name (by decide +kernel)) (by decide +kernel) (by decide +kernel) (by decide) (fun _ _ h => by rw [h.1]; rfl) (fun _ U U' hal hh h => ⟨h.1, h.2.1.mv hal hh, h.2.2⟩) (fun r U U' V V' h1 hal h2 h => ⟨NewArr.mv r U U' V V' h1 hal h2 h.1, by rw [h1, h2]; exact h.2⟩) ?_
  intro p e s m args below meth c s₁ X0 hexec hbytes hml hret hlk hnm hown hh0 W hP
  obtain ⟨rfl, hA, l1, l2, hp⟩ := hP
  have a31 := hA.1.2.2.2
  have c1 : Steps p.tables e below (s₁.setTop (entryFrame m #[.ref b, .int (Int32.ofNat o), .int (Int32.ofNat len)] 6)) (s₁.setTop (mkF m 0 #[.val (.ref b), .val (.int (Int32.ofNat o)), .val (.int (Int32.ofNat len)), .unset, .unset, .unset] [])) := entry rfl
  have c2 : Steps p.tables e below (s₁.setTop (entryFrame m #[.ref b, .int (Int32.ofNat o), .int (Int32.ofNat len)] 6)) (s₁.setTop (mkF m 1 #[.val (.ref b), .val (.int (Int32.ofNat o)), .val (.int (Int32.ofNat len)), .unset, .unset, .unset] [.int (Int32.ofNat len)])) := c1.trans (by
    refine XS.iloadN X0.here hexec rfl (hb hbytes d0) rfl ?_
    exact Steps.refl _)
  obtain ⟨T3, B3, X3, ba3, bs3, bv3, bh3, bf3, st3⟩ := X0.anew hexec (atype := .byte) (wk W (.arrayClass .byte)) rfl (by show len * 1 ≤ _; omega) (by omega) (g := (mkF m 1 #[.val (.ref b), .val (.int (Int32.ofNat o)), .val (.int (Int32.ofNat len)), .unset, .unset, .unset] [.int (Int32.ofNat len)])) rfl (hb hbytes d1) (rest := []) rfl (Nat.le_refl _) (by show 0 + len ≤ len; omega)
  rw [hh0] at ba3 st3
  have kp3 : XT.Kept s T3 := (XT.Kept.of_eq hh0).push bh3
  have hA3 := hA.keep X3.warmed.alike (kp3 _ _ hA.1.1)
  have hne : b ≠ s.heap.size := hA.1.ne
  have c4 : Steps p.tables e below (s₁.setTop (entryFrame m #[.ref b, .int (Int32.ofNat o), .int (Int32.ofNat len)] 6)) (T3.setTop (mkF m 3 #[.val (.ref b), .val (.int (Int32.ofNat o)), .val (.int (Int32.ofNat len)), .unset, .unset, .unset] [.ref s.heap.size])) := c2.trans (st3 _ (Steps.refl _))
  have c5 : Steps p.tables e below (s₁.setTop (entryFrame m #[.ref b, .int (Int32.ofNat o), .int (Int32.ofNat len)] 6)) (T3.setTop (mkF m 9 #[.val (.ref b), .val (.int (Int32.ofNat o)), .val (.int (Int32.ofNat len)), .val (.ref s.heap.size), .unset, .unset] [.int (Int32.ofNat len), .int 0, .ref s.heap.size, .int (Int32.ofNat o), .ref b])) := c4.trans (by
    refine XS.astoreN X3.here hexec rfl (hb hbytes d3) rfl rfl rfl ?_
    refine XS.aloadN X3.here hexec rfl (hb hbytes d4) rfl rfl ?_
    refine XS.iloadN X3.here hexec rfl (hb hbytes d5) rfl ?_
    refine XS.aloadN X3.here hexec rfl (hb hbytes d6) rfl rfl ?_
    refine iconstV X3.here hexec rfl 0 (hb hbytes d7) (by decide) ?_
    refine XS.iloadN X3.here hexec rfl (hb hbytes d8) rfl ?_
    exact Steps.refl _)
  obtain ⟨v6, T6, X6, E6, g6⟩ := X3.callS hexec (Cmp5.law l b A s.heap.size B3 o 0 len) hown (wks W (staticW U16 115 Cmp5.yN)) (wk W Cmp5.tab) (W := 0) (Nat.le_of_ble_eq_true rfl) (Nat.le_of_ble_eq_true rfl) (Nat.le_refl _) (by show 0 + len + 0 ≤ len; omega) (g := (mkF m 9 #[.val (.ref b), .val (.int (Int32.ofNat o)), .val (.int (Int32.ofNat len)), .val (.ref s.heap.size), .unset, .unset] [.int (Int32.ofNat len), .int (Int32.ofNat 0), .ref s.heap.size, .int (Int32.ofNat o), .ref b])) rfl (by rw [hml]; rfl) c5 (argsL := [.ref b, .int (Int32.ofNat o), .ref s.heap.size, .int (Int32.ofNat 0), .int (Int32.ofNat len)]) (rest := []) rfl rfl (by show 2 * 0 + 0 ≤ _; decide) (hb hbytes d9) (⟨rfl, hA3, ba3, hne, l1, by rw [bs3]; simp, hp⟩)
  obtain ⟨rfl, B6, p6, f6⟩ := E6
  have c7 : Steps p.tables e below (s₁.setTop (entryFrame m #[.ref b, .int (Int32.ofNat o), .int (Int32.ofNat len)] 6)) (T6.setTop (mkF m 12 #[.val (.ref b), .val (.int (Int32.ofNat o)), .val (.int (Int32.ofNat len)), .val (.ref s.heap.size), .unset, .unset] [.int (Int32.ofNat len)])) := g6
  have c8 : Steps p.tables e below (s₁.setTop (entryFrame m #[.ref b, .int (Int32.ofNat o), .int (Int32.ofNat len)] 6)) (T6.setTop (mkF m 58 #[.val (.ref b), .val (.int (Int32.ofNat o)), .val (.int (Int32.ofNat len)), .val (.ref s.heap.size), .val (.int (Int32.ofNat len)), .unset] [.ref s.heap.size])) := c7.trans (by
    refine XS.istore X6.here hexec rfl (hb hbytes d12) rfl rfl ?_
    refine XS.iload X6.here hexec rfl (hb hbytes d14) rfl ?_
    refine XS.iloadN X6.here hexec rfl (hb hbytes d16) rfl ?_
    refine XS.icmpYes X6.here hexec rfl (pc0 := 17) rfl (hb hbytes d17) rfl (ii_eq_t rfl) (by decide) rfl ?_
    refine XS.aloadN X6.here hexec rfl (hb hbytes d57) rfl rfl ?_
    exact Steps.refl _)
  have X8 := X6.wide (L' := []) (cells' := 1) (slots' := len) (fun x hx hlt => by
    simp only [List.nil_append, copyLocs, List.mem_map, List.mem_range] at hx
    obtain ⟨i, -, rfl⟩ := hx
    exact absurd hlt (Nat.lt_irrefl _)) (Nat.le_refl _) (by omega)
  exact ⟨T6, some (.ref s.heap.size), _, _, _, X8, rfl, rfl, rfl, (fun h => by cases h), ⟨⟨rfl, B6, ba3.like (X3.warmed.alike.symm.trans X6.warmed.alike) p6.1 f6.1 f6.2.1 f6.2.2.1, f6.2.1.trans bv3, by rw [X6.warmed.alike.findClass, f6.1]; exact bf3, by rw [f6.2.2.1, bs3]; simp, fun j hj => by rw [f6.2.2.2 j, if_pos (by omega)]; rfl, kp3.put p6 (Nat.le_refl _)⟩, by rw [p6.2.2, bh3, hh0]; simp⟩, fun fs hl => c8.trans (X8.areturnOut hexec rfl hret rfl (hb hbytes d58) hl)⟩
end Cmp3
namespace CodL
def yN : MethodName := ⟨"java/lang/StringUTF16", "coderFromArrayLen", "([BI)B"⟩
abbrev yB : ByteArray := jdk_52_method_15_code
theorem d0 : decode yB 0 = .ok (.iload_n 1, 1) := by decide +kernel
theorem d1 : decode yB 1 = .ok (.aload_n 0, 1) := by decide +kernel
theorem d2 : decode yB 2 = .ok (.arraylength, 1) := by decide +kernel
theorem d3 : decode yB 3 = .ok (.isub, 1) := by decide +kernel
theorem d4 : decode yB 4 = .ok (.bipush 31, 2) := by decide +kernel
theorem d6 : decode yB 6 = .ok (.iushr, 1) := by decide +kernel
theorem d7 : decode yB 7 = .ok (.i2b, 1) := by decide +kernel
theorem d8 : decode yB 8 = .ok (.ireturn, 1) := by decide +kernel
def site : List Cond := []
def tab : Cond := tabOf yN yB 2 (some .byte) site
def P (d : Addr) (B : Cell) (args : Array Value) (s : State) : Prop := args = #[.ref d, .int (Int32.ofNat B.slots.size)] ∧ Arr .byte d B s
def E (r : Option Value) (s u : State) : Prop := XT.PureE (some (.int 0)) r s u
/-- an array as long as the number of chars: LATIN1 -/
theorem law (l : Launch) (d : Addr) (B : Cell) : Law l yN 2 2 0 0 yB 2 (some .byte) site (P d B) E [] 0 0 := by
  refine Law.of_walk (plainFor_of_name (by decide +kernel)) (by decide +kernel) (by decide +kernel) (by decide) (fun _ _ h => by rw [h.1]; rfl) (fun _ U U' hal hh h => ⟨h.1, h.2.mv hal hh⟩) (fun r U U' V V' h1 hal h2 h => XT.PureE.mv r U U' V V' h1 hal h2 h) ?_
  intro p e s m args below meth c s₁ X0 hexec hbytes hml hret hlk hnm hown hh0 W hP
  obtain ⟨rfl, hB⟩ := hP
  have hB0 := hB.mv X0.warmed.alike hh0
  have c1 : Steps p.tables e below (s₁.setTop (entryFrame m #[.ref d, .int (Int32.ofNat B.slots.size)] 2)) (s₁.setTop (mkF m 0 #[.val (.ref d), .val (.int (Int32.ofNat B.slots.size))] [])) := entry rfl
  have c2 : Steps p.tables e below (s₁.setTop (entryFrame m #[.ref d, .int (Int32.ofNat B.slots.size)] 2)) (s₁.setTop (mkF m 2 #[.val (.ref d), .val (.int (Int32.ofNat B.slots.size))] [.ref d, .int (Int32.ofNat B.slots.size)])) := c1.trans (by
    refine XS.iloadN X0.here hexec rfl (hb hbytes d0) rfl ?_
    refine XS.aloadN X0.here hexec rfl (hb hbytes d1) rfl rfl ?_
    exact Steps.refl _)
  have c3 : Steps p.tables e below (s₁.setTop (entryFrame m #[.ref d, .int (Int32.ofNat B.slots.size)] 2)) (s₁.setTop (mkF m 8 #[.val (.ref d), .val (.int (Int32.ofNat B.slots.size))] [.int (lo8 (ushr (Int32.ofNat B.slots.size - Int32.ofNat B.slots.size) 31))])) := c2.trans (by
    refine X0.alen hexec hB0 rfl rfl (hb hbytes d2) ?_
    refine XS.isub X0.here hexec rfl (hb hbytes d3) rfl ?_
    refine bipushV X0.here hexec rfl 31 (hb hbytes d4) (by decide) ?_
    refine iushr X0.here hexec rfl (hb hbytes d6) rfl ?_
    refine i2b X0.here hexec rfl (hb hbytes d7) rfl ?_
    exact Steps.refl _)
  have e0 : lo8 (ushr (Int32.ofNat B.slots.size - Int32.ofNat B.slots.size) 31) = 0 := by rw [Int32.sub_self]; decide
  rw [e0] at c3
  exact ⟨s₁, some (.int 0), _, _, _, X0, rfl, rfl, rfl, (fun h => by cases h), ⟨rfl, hh0⟩, fun fs hl => c3.trans (X0.ireturnOut hexec hret rfl (Or.inr (Or.inr (Or.inl rfl))) (hb hbytes d8) hl)⟩
end CodL
/-- the String at a is Latin-1 over a new byte[] (the heap's one new cell): the low bytes of the len chars of A from o on; every cell but a is kept -/
def Got (a : Addr) (D : Cell) (fV fC : Field) (A : Cell) (o len : Nat) (r : Option Value) (s u : State) : Prop := r = none ∧ ∃ D' V : Cell, Blank "java/lang/String" a D' u ∧ Same D D' [fV.slot, fC.slot] ∧ D'.slots[fV.slot]? = some (.ref s.heap.size) ∧ D'.slots[fC.slot]? = some (.int 0) ∧ Arr .byte s.heap.size V u ∧ V.vm = .none ∧ u.vm.findClass "[B" = some V.cls ∧ V.slots.size = len ∧ (∀ j, j < len → V.slots[j]? = some (.int (lo8 (cv A (o + j))))) ∧ (∀ (y : Addr) (c : Cell), y ≠ a → s.heap[y]? = some c → u.heap[y]? = some c) ∧ u.heap.size = s.heap.size + 1
theorem Got.mv {a : Addr} {D A : Cell} {fV fC : Field} {o len : Nat} : ∀ r (U U' V V' : State), U'.heap = U.heap → V.vm.Alike V'.vm → V'.heap = V.heap → Got a D fV fC A o len r U V → Got a D fV fC A o len r U' V' :=
  fun r U U' V V' h1 hal h2 ⟨e0, D', X, a1, a2, a3, a4, a5, a6, a7, a8, a9, a10, a11⟩ => ⟨e0, D', X, a1.mv hal h2, a2, by rw [h1]; exact a3, a4, by rw [h1]; exact a5.mv hal h2, a6, by rw [hal.findClass]; exact a7, a8, a9, by rw [h1, h2]; exact a10, by rw [h1, h2]; exact a11⟩
namespace New4
def yN : MethodName := ⟨"java/lang/String", "<init>", "([CIILjava/lang/Void;)V"⟩
abbrev yB : ByteArray := jdk_42_method_149_code
theorem d0 : decode yB 0 = .ok (.aload_n 0, 1) := by decide +kernel
theorem d1 : decode yB 1 = .ok (.invokespecial 1, 3) := by decide +kernel
theorem d4 : decode yB 4 = .ok (.iload_n 3, 1) := by decide +kernel
theorem d5 : decode yB 5 = .ok (.ifCond (.ne) 22, 3) := by decide +kernel
theorem d27 : decode yB 27 = .ok (.getstatic 38, 3) := by decide +kernel
theorem d30 : decode yB 30 = .ok (.ifCond (.eq) 28, 3) := by decide +kernel
theorem d33 : decode yB 33 = .ok (.aload_n 1, 1) := by decide +kernel
theorem d34 : decode yB 34 = .ok (.iload_n 2, 1) := by decide +kernel
theorem d35 : decode yB 35 = .ok (.iload_n 3, 1) := by decide +kernel
theorem d36 : decode yB 36 = .ok (.invokestatic 177, 3) := by decide +kernel
theorem d39 : decode yB 39 = .ok (.astore 5, 2) := by decide +kernel
theorem d41 : decode yB 41 = .ok (.aload_n 0, 1) := by decide +kernel
theorem d42 : decode yB 42 = .ok (.aload 5, 2) := by decide +kernel
theorem d44 : decode yB 44 = .ok (.iload_n 3, 1) := by decide +kernel
theorem d45 : decode yB 45 = .ok (.invokestatic 47, 3) := by decide +kernel
theorem d48 : decode yB 48 = .ok (.putfield 15, 3) := by decide +kernel
theorem d51 : decode yB 51 = .ok (.aload_n 0, 1) := by decide +kernel
theorem d52 : decode yB 52 = .ok (.aload 5, 2) := by decide +kernel
theorem d54 : decode yB 54 = .ok (.putfield 9, 3) := by decide +kernel
theorem d57 : decode yB 57 = .ok (.return_, 1) := by decide +kernel
def site : List Cond := [.fieldLink "java/lang/String" 38 "java/lang/String" "COMPACT_STRINGS" "Z", Cmp3.tab, CodL.tab, .laysFinal "java/lang/String" "java/lang/String" "value" "[B", .fieldLink "java/lang/String" 9 "java/lang/String" "value" "[B", .laysFinal "java/lang/String" "java/lang/String" "coder" "B", .fieldLink "java/lang/String" 15 "java/lang/String" "coder" "B"] ++ objW "java/lang/String" 1 ++ staticW "java/lang/String" 177 Cmp3.yN ++ staticW "java/lang/String" 47 CodL.yN
def tab : Cond := tabOf yN yB 6 none site
def P (a : Addr) (D : Cell) (fV fC : Field) (b : Addr) (A : Cell) (z : Int32) (o len : Nat) (args : Array Value) (s : State) : Prop := args = #[.ref a, .ref b, .int (Int32.ofNat o), .int (Int32.ofNat len), .null] ∧ Blank "java/lang/String" a D s ∧ Found "java/lang/String" "value" "[B" fV s ∧ Found "java/lang/String" "coder" "B" fC s ∧ Ch b A s ∧ StaticIs s "java/lang/String" "COMPACT_STRINGS" "Z" (.int z) ∧ ¬ z = 0 ∧ 0 < len ∧ o + len ≤ A.slots.size ∧ len ≤ 536870912 ∧ ∀ i, i < len → ¬ 255 < cv A (o + i)
def E (a : Addr) (D : Cell) (fV fC : Field) (A : Cell) (o len : Nat) (r : Option Value) (s u : State) : Prop := Got a D fV fC A o len r s u
/-- len > 0, no char of the range above 255: a Latin-1 String of their low bytes -/
theorem law (l : Launch) (a : Addr) (D : Cell) (fV fC : Field) (b : Addr) (A : Cell) (z : Int32) (o len : Nat) : Law l yN 5 4 2 35 yB 6 none site (P a D fV fC b A z o len) (E a D fV fC A o len) [⟨a, fC.slot⟩, ⟨a, fV.slot⟩] 1 len := by
  refine Law.of_walk (plainFor_of_name (by decide +kernel)) (by decide +kernel) (by decide +kernel) (by decide) (fun _ _ h => by rw [h.1]; rfl) (fun _ U U' hal hh h => ⟨h.1, h.2.1.mv hal hh, h.2.2.1.al hal, h.2.2.2.1.al hal, h.2.2.2.2.1.mv hal hh, h.2.2.2.2.2.1.there hal hh, h.2.2.2.2.2.2⟩) (fun r U U' V V' h1 hal h2 h => Got.mv r U U' V V' h1 hal h2 h) ?_
  intro p e s m args below meth c s₁ X0 hexec hbytes hml hret hlk hnm hown hh0 W hP
  obtain ⟨rfl, hB, f1, f2, hA, s1, hz, l0, l1, l2, hp⟩ := hP
  have a31 := hA.1.2.2.2
  have c1 : Steps p.tables e below (s₁.setTop (entryFrame m #[.ref a, .ref b, .int (Int32.ofNat o), .int (Int32.ofNat len), .null] 6)) (s₁.setTop (mkF m 0 #[.val (.ref a), .val (.ref b), .val (.int (Int32.ofNat o)), .val (.int (Int32.ofNat len)), .val .null, .unset] [])) := entry rfl
  have c2 : Steps p.tables e below (s₁.setTop (entryFrame m #[.ref a, .ref b, .int (Int32.ofNat o), .int (Int32.ofNat len), .null] 6)) (s₁.setTop (mkF m 1 #[.val (.ref a), .val (.ref b), .val (.int (Int32.ofNat o)), .val (.int (Int32.ofNat len)), .val .null, .unset] [.ref a])) := c1.trans (by
    refine XS.aloadN X0.here hexec rfl (hb hbytes d0) rfl rfl ?_
    exact Steps.refl _)
  obtain ⟨T3, X3, q3, st3⟩ := X0.oinit hexec hown (wks W (objW "java/lang/String" 1)) (g := (mkF m 1 #[.val (.ref a), .val (.ref b), .val (.int (Int32.ofNat o)), .val (.int (Int32.ofNat len)), .val .null, .unset] [.ref a])) rfl (by rw [hml]; rfl) (rest := []) rfl (hb hbytes d1) (W := 0) (by show 2 * 0 + 0 ≤ _; decide) (Nat.le_of_ble_eq_true rfl) (Nat.le_of_ble_eq_true rfl)
  have hh3 := q3.trans hh0
  have c4 : Steps p.tables e below (s₁.setTop (entryFrame m #[.ref a, .ref b, .int (Int32.ofNat o), .int (Int32.ofNat len), .null] 6)) (T3.setTop (mkF m 27 #[.val (.ref a), .val (.ref b), .val (.int (Int32.ofNat o)), .val (.int (Int32.ofNat len)), .val .null, .unset] [])) := (c2.trans (st3 _ (Steps.refl _))).trans (by
    refine XS.iloadN X3.here hexec rfl (hb hbytes d4) rfl ?_
    refine XS.ifYes X3.here hexec rfl (pc0 := 5) rfl (hb hbytes d5) rfl (i0_ne_t (nz32 (by omega) l0)) (by decide) rfl ?_
    exact Steps.refl _)
  obtain ⟨T5, X5, q5, st5⟩ := X3.sget hexec hown (wk W (.fieldLink "java/lang/String" 38 "java/lang/String" "COMPACT_STRINGS" "Z")) s1 (fun _ _ h => by rw [hh3]; exact h) (g := (mkF m 27 #[.val (.ref a), .val (.ref b), .val (.int (Int32.ofNat o)), .val (.int (Int32.ofNat len)), .val .null, .unset] [])) rfl (hb hbytes d27)
  have hh5 := q5.trans hh3
  have c6 : Steps p.tables e below (s₁.setTop (entryFrame m #[.ref a, .ref b, .int (Int32.ofNat o), .int (Int32.ofNat len), .null] 6)) (T5.setTop (mkF m 30 #[.val (.ref a), .val (.ref b), .val (.int (Int32.ofNat o)), .val (.int (Int32.ofNat len)), .val .null, .unset] [.int z])) := c4.trans (st5 _ (Steps.refl _))
  have c7 : Steps p.tables e below (s₁.setTop (entryFrame m #[.ref a, .ref b, .int (Int32.ofNat o), .int (Int32.ofNat len), .null] 6)) (T5.setTop (mkF m 36 #[.val (.ref a), .val (.ref b), .val (.int (Int32.ofNat o)), .val (.int (Int32.ofNat len)), .val .null, .unset] [.int (Int32.ofNat len), .int (Int32.ofNat o), .ref b])) := c6.trans (by
    refine XS.ifNo X5.here hexec rfl (hb hbytes d30) rfl (i0_eq_f hz) ?_
    refine XS.aloadN X5.here hexec rfl (hb hbytes d33) rfl rfl ?_
    refine XS.iloadN X5.here hexec rfl (hb hbytes d34) rfl ?_
    refine XS.iloadN X5.here hexec rfl (hb hbytes d35) rfl ?_
    exact Steps.refl _)
  obtain ⟨v8, T8, X8, E8, g8⟩ := X5.callS hexec (Cmp3.law l b A o len) hown (wks W (staticW "java/lang/String" 177 Cmp3.yN)) (wk W Cmp3.tab) (W := 0) (Nat.le_of_ble_eq_true rfl) (Nat.le_of_ble_eq_true rfl) (Nat.le_refl _) (by show 0 + len ≤ len; omega) (g := (mkF m 36 #[.val (.ref a), .val (.ref b), .val (.int (Int32.ofNat o)), .val (.int (Int32.ofNat len)), .val .null, .unset] [.int (Int32.ofNat len), .int (Int32.ofNat o), .ref b])) rfl (by rw [hml]; rfl) c7 (argsL := [.ref b, .int (Int32.ofNat o), .int (Int32.ofNat len)]) (rest := []) rfl rfl (by show 2 * 0 + 0 ≤ _; decide) (hb hbytes d36) (⟨rfl, hA.mv X5.warmed.alike hh5, l1, l2, hp⟩)
  obtain ⟨e8, z8⟩ := E8
  obtain ⟨rfl, N, n1, n2, n3, n4, n5, n6⟩ := NewArr.mv _ T5 s _ _ hh5.symm (Vm.Alike.refl _) rfl e8
  rw [hh5] at z8
  have hB1 := hB.keep X8.warmed.alike (n6 _ _ hB.1)
  have hne : s.heap.size ≠ a := (Nat.ne_of_lt (Array.getElem?_eq_some_iff.mp hB.1).1).symm
  have c9 : Steps p.tables e below (s₁.setTop (entryFrame m #[.ref a, .ref b, .int (Int32.ofNat o), .int (Int32.ofNat len), .null] 6)) (T8.setTop (mkF m 39 #[.val (.ref a), .val (.ref b), .val (.int (Int32.ofNat o)), .val (.int (Int32.ofNat len)), .val .null, .unset] [.ref s.heap.size])) := g8
  have c10 : Steps p.tables e below (s₁.setTop (entryFrame m #[.ref a, .ref b, .int (Int32.ofNat o), .int (Int32.ofNat len), .null] 6)) (T8.setTop (mkF m 45 #[.val (.ref a), .val (.ref b), .val (.int (Int32.ofNat o)), .val (.int (Int32.ofNat len)), .val .null, .val (.ref s.heap.size)] [.int (Int32.ofNat N.slots.size), .ref s.heap.size, .ref a])) := by
    have hc : Steps p.tables e below (s₁.setTop (entryFrame m #[.ref a, .ref b, .int (Int32.ofNat o), .int (Int32.ofNat len), .null] 6)) (T8.setTop (mkF m 45 #[.val (.ref a), .val (.ref b), .val (.int (Int32.ofNat o)), .val (.int (Int32.ofNat len)), .val .null, .val (.ref s.heap.size)] [.int (Int32.ofNat len), .ref s.heap.size, .ref a])) := c9.trans (by
      refine XS.astore X8.here hexec rfl (hb hbytes d39) rfl rfl rfl ?_
      refine XS.aloadN X8.here hexec rfl (hb hbytes d41) rfl rfl ?_
      refine XS.aload X8.here hexec rfl (hb hbytes d42) rfl rfl ?_
      refine XS.iloadN X8.here hexec rfl (hb hbytes d44) rfl ?_
      exact Steps.refl _)
    rw [n4]; exact hc
  obtain ⟨v11, T11, X11, E11, g11⟩ := X8.callS hexec (CodL.law l s.heap.size N) hown (wks W (staticW "java/lang/String" 47 CodL.yN)) (wk W CodL.tab) (W := 1) (Nat.le_of_ble_eq_true rfl) (Nat.le_of_ble_eq_true rfl) (Nat.le_refl _) (by show 0 + len + 0 ≤ len; omega) (g := (mkF m 45 #[.val (.ref a), .val (.ref b), .val (.int (Int32.ofNat o)), .val (.int (Int32.ofNat len)), .val .null, .val (.ref s.heap.size)] [.int (Int32.ofNat N.slots.size), .ref s.heap.size, .ref a])) rfl (by rw [hml]; rfl) c10 (argsL := [.ref s.heap.size, .int (Int32.ofNat N.slots.size)]) (rest := [.ref a]) rfl rfl (by show 2 * 0 + (1 + 0) ≤ _; decide) (hb hbytes d45) (⟨rfl, n1⟩)
  obtain ⟨rfl, q11⟩ := E11
  have hB11 := hB1.mv (X8.warmed.alike.symm.trans X11.warmed.alike) q11
  have c12 : Steps p.tables e below (s₁.setTop (entryFrame m #[.ref a, .ref b, .int (Int32.ofNat o), .int (Int32.ofNat len), .null] 6)) (T11.setTop (mkF m 48 #[.val (.ref a), .val (.ref b), .val (.int (Int32.ofNat o)), .val (.int (Int32.ofNat len)), .val .null, .val (.ref s.heap.size)] [.int 0, .ref a])) := g11
  obtain ⟨T13, X13, p13, bl13, sl13, st13⟩ := X11.finit hexec hown (wk W (.fieldLink "java/lang/String" 15 "java/lang/String" "coder" "B")) (Or.inr ⟨_, (wk W (.laysFinal "java/lang/String" "java/lang/String" "coder" "B"))⟩) (Or.inl ⟨rfl, hnm⟩) f2 (Or.inl rfl) hB11 (t := .byte) (by decide +kernel) rfl (g := (mkF m 48 #[.val (.ref a), .val (.ref b), .val (.int (Int32.ofNat o)), .val (.int (Int32.ofNat len)), .val .null, .val (.ref s.heap.size)] [.int 0, .ref a])) rfl (rest := []) rfl (hb hbytes d48)
  have c14 : Steps p.tables e below (s₁.setTop (entryFrame m #[.ref a, .ref b, .int (Int32.ofNat o), .int (Int32.ofNat len), .null] 6)) (T13.setTop (mkF m 54 #[.val (.ref a), .val (.ref b), .val (.int (Int32.ofNat o)), .val (.int (Int32.ofNat len)), .val .null, .val (.ref s.heap.size)] [.ref s.heap.size, .ref a])) := (c12.trans (st13 _ (Steps.refl _))).trans (by
    refine XS.aloadN X13.here hexec rfl (hb hbytes d51) rfl rfl ?_
    refine XS.aload X13.here hexec rfl (hb hbytes d52) rfl rfl ?_
    exact Steps.refl _)
  obtain ⟨T15, X15, p15, bl15, sl15, st15⟩ := X13.finit hexec hown (wk W (.fieldLink "java/lang/String" 9 "java/lang/String" "value" "[B")) (Or.inr ⟨_, (wk W (.laysFinal "java/lang/String" "java/lang/String" "value" "[B"))⟩) (Or.inl ⟨rfl, hnm⟩) f1 (Or.inl rfl) bl13 (t := (.array .byte)) (by decide +kernel) rfl (g := (mkF m 54 #[.val (.ref a), .val (.ref b), .val (.int (Int32.ofNat o)), .val (.int (Int32.ofNat len)), .val .null, .val (.ref s.heap.size)] [.ref s.heap.size, .ref a])) rfl (rest := []) rfl (hb hbytes d54)
  have c16 : Steps p.tables e below (s₁.setTop (entryFrame m #[.ref a, .ref b, .int (Int32.ofNat o), .int (Int32.ofNat len), .null] 6)) (T15.setTop (mkF m 57 #[.val (.ref a), .val (.ref b), .val (.int (Int32.ofNat o)), .val (.int (Int32.ofNat len)), .val .null, .val (.ref s.heap.size)] [])) := c14.trans (st15 _ (Steps.refl _))
  have ap := apart (Or.inr ⟨_, (wk W (.laysFinal "java/lang/String" "java/lang/String" "value" "[B"))⟩) (Or.inr ⟨_, (wk W (.laysFinal "java/lang/String" "java/lang/String" "coder" "B"))⟩) f1 f2 (t₁ := .array .byte) (t₂ := .byte) (by decide +kernel) (by decide +kernel) (by decide)
  have al := X8.warmed.alike.symm.trans X15.warmed.alike
  have n7 : T11.heap[s.heap.size]? = some N := by rw [q11]; exact n1.1
  exact ⟨T15, none, _, _, _, X15, by simp, rfl, by omega, (fun _ => rfl), ⟨rfl, _, N, bl15, ((Same.refl D _).set _ (by simp)).set _ (by simp), sl15, (Cell.slots_setSlot_ne _ ap).trans sl13, n1.keep al (p15.other hne (p13.other hne n7)), n2, by rw [al.findClass]; exact n3, n4, n5, fun y c h1 h2 => p15.other h1 (p13.other h1 (by rw [q11]; exact n6 y c h2)), by rw [p15.2.2, p13.2.2, q11]; exact z8⟩, fun fs hl => c16.trans (X15.returnOut hexec hret (hb hbytes d57) hl)⟩
end New4
namespace New1
def yN : MethodName := ⟨"java/lang/String", "<init>", "([C)V"⟩
abbrev yB : ByteArray := jdk_42_method_3_code
theorem d0 : decode yB 0 = .ok (.aload_n 0, 1) := by decide +kernel
theorem d1 : decode yB 1 = .ok (.aload_n 1, 1) := by decide +kernel
theorem d2 : decode yB 2 = .ok (.iconst 0, 1) := by decide +kernel
theorem d3 : decode yB 3 = .ok (.aload_n 1, 1) := by decide +kernel
theorem d4 : decode yB 4 = .ok (.arraylength, 1) := by decide +kernel
theorem d5 : decode yB 5 = .ok (.aconst_null, 1) := by decide +kernel
theorem d6 : decode yB 6 = .ok (.invokespecial 27, 3) := by decide +kernel
theorem d9 : decode yB 9 = .ok (.return_, 1) := by decide +kernel
def site : List Cond := [New4.tab] ++ initW "java/lang/String" 27 New4.yN
def tab : Cond := tabOf yN yB 2 none site
def P (a : Addr) (D : Cell) (fV fC : Field) (b : Addr) (A : Cell) (z : Int32) (args : Array Value) (s : State) : Prop := args = #[.ref a, .ref b] ∧ Blank "java/lang/String" a D s ∧ Found "java/lang/String" "value" "[B" fV s ∧ Found "java/lang/String" "coder" "B" fC s ∧ Ch b A s ∧ StaticIs s "java/lang/String" "COMPACT_STRINGS" "Z" (.int z) ∧ ¬ z = 0 ∧ 0 < A.slots.size ∧ A.slots.size ≤ 536870912 ∧ ∀ i, i < A.slots.size → ¬ 255 < cv A i
def E (a : Addr) (D : Cell) (fV fC : Field) (A : Cell) (r : Option Value) (s u : State) : Prop := Got a D fV fC A 0 A.slots.size r s u
/-- new String(chars), not empty, no char above 255: a Latin-1 String of their low bytes -/
theorem law (l : Launch) (a : Addr) (D : Cell) (fV fC : Field) (b : Addr) (A : Cell) (z : Int32) : Law l yN 2 1 3 52 yB 2 none site (P a D fV fC b A z) (E a D fV fC A) [⟨a, fC.slot⟩, ⟨a, fV.slot⟩] 1 A.slots.size := by
  refine Law.of_walk (plainFor_of_name (by decide +kernel)) (by decide +kernel) (by decide +kernel) (by decide) (fun _ _ h => by rw [h.1]; rfl) (fun _ U U' hal hh h => ⟨h.1, h.2.1.mv hal hh, h.2.2.1.al hal, h.2.2.2.1.al hal, h.2.2.2.2.1.mv hal hh, h.2.2.2.2.2.1.there hal hh, h.2.2.2.2.2.2⟩) (fun r U U' V V' h1 hal h2 h => Got.mv r U U' V V' h1 hal h2 h) ?_
  intro p e s m args below meth c s₁ X0 hexec hbytes hml hret hlk hnm hown hh0 W hP
  obtain ⟨rfl, hB, f1, f2, hA, s1, hz, l0, l2, hp⟩ := hP
  have c1 : Steps p.tables e below (s₁.setTop (entryFrame m #[.ref a, .ref b] 2)) (s₁.setTop (mkF m 0 #[.val (.ref a), .val (.ref b)] [])) := entry rfl
  have c2 : Steps p.tables e below (s₁.setTop (entryFrame m #[.ref a, .ref b] 2)) (s₁.setTop (mkF m 6 #[.val (.ref a), .val (.ref b)] [.null, .int (Int32.ofNat A.slots.size), .int 0, .ref b, .ref a])) := c1.trans (by
    refine XS.aloadN X0.here hexec rfl (hb hbytes d0) rfl rfl ?_
    refine XS.aloadN X0.here hexec rfl (hb hbytes d1) rfl rfl ?_
    refine iconstV X0.here hexec rfl 0 (hb hbytes d2) (by decide) ?_
    refine XS.aloadN X0.here hexec rfl (hb hbytes d3) rfl rfl ?_
    refine X0.alen hexec (hA.1.mv X0.warmed.alike hh0) rfl rfl (hb hbytes d4) ?_
    refine XS.aconstNull X0.here hexec rfl (hb hbytes d5) ?_
    exact Steps.refl _)
  obtain ⟨v3, T3, X3, E3, g3⟩ := X0.callN hexec (New4.law l a D fV fC b A z 0 A.slots.size) rfl hown (wks W (initW "java/lang/String" 27 New4.yN)) (W New4.tab (by simp only [site, List.mem_cons, List.mem_append, true_or, or_true])) (W := 0) (Nat.le_of_ble_eq_true rfl) (Nat.le_of_ble_eq_true rfl) (Nat.le_refl _) (by show 0 + A.slots.size ≤ A.slots.size; omega) (g := (mkF m 6 #[.val (.ref a), .val (.ref b)] [.null, .int (Int32.ofNat A.slots.size), .int (Int32.ofNat 0), .ref b, .ref a])) rfl (by rw [hml]; rfl) c2 (argsL := [.ref b, .int (Int32.ofNat 0), .int (Int32.ofNat A.slots.size), .null]) (rest := []) rfl rfl (by show 2 * 0 + 0 ≤ _; decide) (hb hbytes d6) (⟨rfl, hB.mv X0.warmed.alike hh0, f1.al X0.warmed.alike, f2.al X0.warmed.alike, hA.mv X0.warmed.alike hh0, s1.there X0.warmed.alike hh0, hz, l0, by omega, l2, fun i hi => by rw [Nat.zero_add]; exact hp i hi⟩)
  have e0 := Got.mv _ s₁ s _ _ hh0.symm (Vm.Alike.refl _) rfl E3
  obtain rfl := e0.1
  have c4 : Steps p.tables e below (s₁.setTop (entryFrame m #[.ref a, .ref b] 2)) (T3.setTop (mkF m 9 #[.val (.ref a), .val (.ref b)] [])) := g3
  exact ⟨T3, none, _, _, _, X3, by simp, rfl, by omega, (fun _ => rfl), e0, fun fs hl => c4.trans (X3.returnOut hexec hret (hb hbytes d9) hl)⟩
theorem pays {l : Launch} {R : Room} {p : Program} {e : Env} {below : List Frame} {s : State} {sargs : Array Value} {len W : Nat} (a : Addr) (D : Cell) (fV fC : Field) (b : Addr) (A : Cell) (z : Int32) (htab : tab.before sargs s = true) (hfr : 4 ≤ R.frames) (hlo : W + 65 ≤ R.locals) :
    Back l R p e below s sargs yN len W (fun A₁ a₁ => A₁.cells + 1 ≤ R.cells ∧ A₁.slots + A.slots.size ≤ R.slots ∧ P a D fV fC b A z a₁ A₁.U) (fun A₁ _ v₁ B₁ => E a D fV fC A v₁ A₁.U B₁.U ∧ B₁.locs = A₁.locs ++ [⟨a, fC.slot⟩, ⟨a, fV.slot⟩] ∧ B₁.cells = A₁.cells + 1 ∧ B₁.slots = A₁.slots + A.slots.size) :=
  (law l a D fV fC b A z).pays htab hfr (by omega)
end New1
end StrChars
namespace StrChars.Road
open Jvm Sem ClassFile Op Lib Jvm.Stand Jvm.Free Jvm.Free.XT
open Jvm.Lib.Cold (StaticIs)
abbrev ST : String := "java/lang/String"
/-- every table word that New1's law asks, flat -/
abbrev words : List Jvm.Cond := [.code New1.yN New1.yB 2 none, .initialized ST, .methodLink ST 27 New4.yN, .instanceMethod New4.yN,
  .code New4.yN New4.yB 6 none, .fieldLink ST 38 ST "COMPACT_STRINGS" "Z", .laysFinal ST ST "value" "[B", .fieldLink ST 9 ST "value" "[B", .laysFinal ST ST "coder" "B", .fieldLink ST 15 ST "coder" "B",
  .methodLink ST 1 Lib.objectInit, .instanceMethod Lib.objectInit, .code Lib.objectInit ⟨#[0xb1]⟩ 1 none, .methodLink ST 177 Cmp3.yN, .static Cmp3.yN, .methodLink ST 47 CodL.yN, .static CodL.yN,
  .code Cmp3.yN Cmp3.yB 6 (some (.array .byte)), .initialized U16, .arrayClass .byte, .methodLink U16 115 Cmp5.yN, .static Cmp5.yN, .code Cmp5.yN Cmp5.yB 7 (some .int), .code CodL.yN CodL.yB 2 (some .byte)]
theorem tab_of {a : Array Value} {s : State} (h : ∀ w ∈ words, w.before a s = true) : New1.tab.before a s = true := by
  have h5 : Cmp5.tab.before a s = true := unparts (wk h (.code Cmp5.yN Cmp5.yB 7 (some .int))) (wks h (.initialized Cmp5.yN.cls :: Cmp5.site))
  have hc : CodL.tab.before a s = true := unparts (wk h (.code CodL.yN CodL.yB 2 (some .byte))) (wks h (.initialized CodL.yN.cls :: CodL.site))
  have q5 : ∀ w ∈ Cmp5.tab :: words, w.before a s = true := fun w hw => (List.mem_cons.mp hw).elim (fun e => e ▸ h5) (h w)
  have h3 : Cmp3.tab.before a s = true := unparts (wk q5 (.code Cmp3.yN Cmp3.yB 6 (some (.array .byte)))) (wks q5 (.initialized Cmp3.yN.cls :: Cmp3.site))
  have q3 : ∀ w ∈ Cmp3.tab :: CodL.tab :: words, w.before a s = true := fun w hw => (List.mem_cons.mp hw).elim (fun e => e ▸ h3) fun hw => (List.mem_cons.mp hw).elim (fun e => e ▸ hc) (h w)
  have h4 : New4.tab.before a s = true := unparts (wk q3 (.code New4.yN New4.yB 6 none)) (wks q3 (.initialized New4.yN.cls :: New4.site))
  have q4 : ∀ w ∈ New4.tab :: words, w.before a s = true := fun w hw => (List.mem_cons.mp hw).elim (fun e => e ▸ h4) (h w)
  exact unparts (wk q4 (.code New1.yN New1.yB 2 none)) (wks q4 (.initialized New1.yN.cls :: New1.site))
/-- the words ride from the start Z to the walk's own state -/
theorem moved {Z s : State} {a0 args : Array Value} (hZ : Z.Warmed39 s.vm) (hw : ∀ d ∈ words, d.before a0 Z = true) : ∀ d ∈ words, d.before args s = true := fun d hd => by
  have q := hw d hd
  have t : ∀ d ∈ words, d = .arrayClass .byte ∨ (d.onTables && d.keepsFace) = true := by decide +kernel
  rcases t d hd with rfl | t
  · exact RoadKit.mvA hZ q
  · exact RoadKit.mv hZ q t
/-- WHAT COMES BACK, over the tables of the start Z: h the heap at the call, h' behind it -/
def Q (Z : State) (x : Addr) (A : Cell) (h : Heap) (v : Option Value) (h' : Heap) (L : List Loc) : Prop := v = none ∧ (∀ y ∈ L, y.base = x) ∧ RoadKit.Keep h h' [x] ∧ h'.size = h.size + 1 ∧ RoadKit.Exa Z h' x ST ∧ RoadKit.Fld Z h' x ST "value" "[B" (.ref h.size) ∧ RoadKit.Fld Z h' x ST "coder" "B" (.int 0) ∧
  (∃ V : Cell, RoadKit.Arr Z h' h.size V .byte ∧ V.vm = .none ∧ Z.vm.findClass "[B" = some V.cls ∧ V.slots.size = A.slots.size ∧ ∀ j, j < A.slots.size → V.slots[j]? = some (.int (lo8 (cv A j)))) ∧
  ∀ (O n d : String) (w : Value), RoadKit.Fld Z h x O n d w → RoadKit.slotOf Z O n d ≠ RoadKit.slotOf Z ST "value" "[B" → RoadKit.slotOf Z O n d ≠ RoadKit.slotOf Z ST "coder" "B" → RoadKit.Fld Z h' x O n d w
/-- **new String(chars) AT A CALL, IN THE ROAD'S FORM**: for specialBack behind newO: x the fresh String, b the char[] with the cell A -/
theorem back {p : Program} {l : Launch} {e : Env} {R : Room} {s : State} {args : Array Value} {below : List Frame} {len W : Nat} {Z : State} {a0 : Array Value} {h : Heap} (hZ : Z.Warmed39 s.vm) (hw : ∀ d ∈ words, d.before a0 Z = true) {kI : Nat} (wi : (Jvm.Cond.instantiable ST kI).before a0 Z = true)
    {x b : Addr} {A : Cell} {z : Int32} {v0 c0 : Value} (E : RoadKit.Exa Z h x ST) (V : RoadKit.Fld Z h x ST "value" "[B" v0) (C : RoadKit.Fld Z h x ST "coder" "B" c0) (K : RoadKit.Arr Z h b A .char) (hty : Typed .char A) (S : RoadKit.Sta Z h ST "COMPACT_STRINGS" "Z" (.int z)) (hz : ¬ z = 0)
    (l0 : 0 < A.slots.size) (l2 : A.slots.size ≤ 536870912) (hp : ∀ i, i < A.slots.size → ¬ 255 < cv A i) (hfr : 4 ≤ R.frames) (hlo : W + 65 ≤ R.locals) :
    Back l R p e below s args New1.yN len W (fun P a => a = #[.ref x, .ref b] ∧ P.U.heap = h ∧ P.cells + 1 ≤ R.cells ∧ P.slots + A.slots.size ≤ R.slots)
      (fun P _ v B => ∃ L, Q Z x A h v B.U.heap L ∧ B.locs = P.locs ++ L ∧ B.cells = P.cells + 1 ∧ B.slots = P.slots + A.slots.size) := by
  intro m meth c P g ig mk a X hg hsize hdg hW hn hp'
  obtain ⟨rfl, rfl, r1, r2⟩ := hp'
  have al : Z.vm.Alike P.U.vm := hZ.alike.trans X.warmed.alike
  obtain ⟨D, cfV, kV, iV, fV, hD, gV, stV, knV, obV, asV, slV⟩ := id V
  obtain ⟨D', cfC, kC, iC, fC, hD', gC, stC, -, -, asC, slC⟩ := id C
  cases hD.symm.trans hD'
  obtain ⟨D2, kD, e1, e2, e3, e4, e5⟩ := id E
  cases hD.symm.trans e1
  obtain ⟨c2, k2, i1, i2, i3, -⟩ := Cond.instantiable_spec wi
  cases e2.symm.trans i1
  cases e3.symm.trans i2
  obtain ⟨kU, u1, u2⟩ := al.2.2 _ _ e3
  have hB : Blank ST x D P.U := ⟨hD, ⟨knV, fun q hq => by rw [hq] at obV; cases obV⟩, by rw [al.findClass]; exact e2, kU, u1, by rw [u2]; exact i3, by rw [u2]; exact e5 i3⟩
  have F1 : Found ST "value" "[B" fV P.U := ⟨SBG.found_only al ⟨cfV, kV, iV, gV⟩, stV⟩
  have F2 : Found ST "coder" "B" fC P.U := ⟨SBG.found_only al ⟨cfC, kC, iC, gC⟩, stC⟩
  have hA : Ch b A P.U := ⟨⟨K.1, State.isArrayOf_alike al K.2.1, K.2.2, by omega⟩, hty⟩
  have hS : StaticIs P.U ST "COMPACT_STRINGS" "Z" (.int z) := by
    obtain ⟨cfS, iS, kS, fS, st, cS, t1, t2, t3, t4, t5, t6, t7⟩ := S
    exact StaticIs.there (s := { Z with heap := P.U.heap }) ⟨cfS, iS, kS, fS, st, cS, t1, t2, t3, t4, t5, (fun q => by rw [q] at t6; cases t6), t7⟩ al rfl
  obtain ⟨v, B, X', ⟨⟨hv, E', V', q1, q2, q3, q4, q5, q6, q7, q8, q9, q10, q11⟩, hl, hc, hs⟩, st⟩ := New1.pays x D fV fC b A z (tab_of (moved hZ hw)) hfr hlo m meth c P g ig mk _ X hg hsize hdg hW hn ⟨r1, r2, rfl, hB, F1, F2, hA, hS, hz, l0, l2, hp⟩
  have al' : Z.vm.Alike B.U.vm := hZ.alike.trans X'.warmed.alike
  have hsz : E'.slots.size = D.slots.size := by
    obtain ⟨-, -, -, kB, w1, w2, w3⟩ := q1
    obtain ⟨kB', y1, y2⟩ := al'.2.2 _ _ e3
    rw [q2.2.1] at w1
    cases w1.symm.trans y1
    rw [w3, e5 i3, y2]
  refine ⟨v, B, X', ⟨_, ⟨hv, ?_, ⟨by omega, fun y cy hy hn' => q10 y cy (by simpa using hn') hy, fun y cy hy => ?_⟩, q11, ⟨E', _, q1.1, by rw [q2.2.1]; exact e2, by rw [q2.2.1]; exact e3, by rw [q2.1]; exact obV, fun _ => by rw [hsz]; exact e5 i3⟩,
    ⟨E', cfV, kV, iV, fV, q1.1, gV, stV, by rw [q2.1]; exact knV, by rw [q2.1]; exact obV, by rw [q2.2.1]; exact asV, q3⟩, ⟨E', cfC, kC, iC, fC, q1.1, gC, stC, by rw [q2.1]; exact knV, by rw [q2.1]; exact obV, by rw [q2.2.1]; exact asC, q4⟩,
    ⟨V', ⟨q5.1, State.isArrayOf_alike al'.symm q5.2.1, q5.2.2.1⟩, q6, by rw [← al'.findClass]; exact q7, q8, fun j hj => by have := q9 j hj; rwa [Nat.zero_add] at this⟩, fun O n d w F n1 n2 => ?_⟩, hl, hc, hs⟩, st⟩
  · intro y hy
    simp only [List.mem_cons, List.not_mem_nil, or_false] at hy
    rcases hy with rfl | rfl <;> rfl
  · by_cases q : y = x
    · subst q
      cases hD.symm.trans hy
      exact ⟨E', q1.1, q2.2.1, q2.1, hsz⟩
    · exact ⟨cy, q10 y cy q hy, rfl, rfl, rfl⟩
  · obtain ⟨D3, cf, k, i, f, g1, g2, g3, g4, g5, g6, g7⟩ := F
    cases hD.symm.trans g1
    simp only [RoadKit.slotOf, g2, gV, gC, Option.map_some, Option.getD_some] at n1 n2
    exact ⟨E', cf, k, i, f, q1.1, g2, g3, by rw [q2.1]; exact g4, by rw [q2.1]; exact g5, by rw [q2.2.1]; exact g6, by rw [q2.2.2 f.slot (by simp [n1, n2])]; exact g7⟩
end StrChars.Road
namespace StrChars.Road
open Jvm Sem ClassFile Op Lib Jvm.Stand Jvm.Free Jvm.Free.XT
/-- WHAT COMES BACK, the byte[] as a list of values -/
def QA (Z : State) (x : Addr) (zn : Int32) (cs : List Int32) (h : Heap) (v : Option Value) (h' : Heap) (L : List Loc) : Prop := v = none ∧ (∀ y ∈ L, y.base = x) ∧ RoadKit.Keep h h' [x] ∧ h'.size = h.size + 1 ∧ RoadKit.Exa Z h' x ST ∧ RoadKit.Fld Z h' x ST "value" "[B" (.ref h.size) ∧ RoadKit.Fld Z h' x ST "coder" "B" (.int 0) ∧
  (∃ kb, Z.vm.findClass "[B" = some kb ∧ RoadKit.Arv Z h' h.size kb .byte zn (cs.map fun c => .int (lo8 c)) (.int 0)) ∧
  ∀ (O n d : String) (w : Value), RoadKit.Fld Z h x O n d w → RoadKit.slotOf Z O n d ≠ RoadKit.slotOf Z ST "value" "[B" → RoadKit.slotOf Z O n d ≠ RoadKit.slotOf Z ST "coder" "B" → RoadKit.Fld Z h' x O n d w
/-- **new String(chars) AT A CALL, THE ARRAYS AS LISTS**: the char[] at b holds cs, not empty, no char above 255 -/
theorem backArv {p : Program} {l : Launch} {e : Env} {R : Room} {s : State} {args : Array Value} {below : List Frame} {len W : Nat} {Z : State} {a0 : Array Value} {h : Heap} (hZ : Z.Warmed39 s.vm) (hw : ∀ d ∈ words, d.before a0 Z = true) {kI : Nat} (wi : (Jvm.Cond.instantiable ST kI).before a0 Z = true)
    {x b : Addr} {k : ClassId} {zn z : Int32} {cs : List Int32} {dv v0 c0 : Value} (E : RoadKit.Exa Z h x ST) (V : RoadKit.Fld Z h x ST "value" "[B" v0) (C : RoadKit.Fld Z h x ST "coder" "B" c0) (K : RoadKit.Arv Z h b k .char zn (cs.map Value.int) dv) (S : RoadKit.Sta Z h ST "COMPACT_STRINGS" "Z" (.int z)) (hz : ¬ z = 0)
    (hlen : zn.toNatClampNeg = cs.length) (h0 : 0 < cs.length) (hbig : cs.length ≤ 536870912) (hall : ∀ c ∈ cs, ¬ 255 < c) (hfr : 4 ≤ R.frames) (hlo : W + 65 ≤ R.locals) :
    Back l R p e below s args New1.yN len W (fun P a => a = #[.ref x, .ref b] ∧ P.U.heap = h ∧ P.cells + 1 ≤ R.cells ∧ P.slots + cs.length ≤ R.slots)
      (fun P _ v B => ∃ L, QA Z x zn cs h v B.U.heap L ∧ B.locs = P.locs ++ L ∧ B.cells = P.cells + 1 ∧ B.slots = P.slots + cs.length) := by
  obtain ⟨A, K1, K2, K3, K4, K5, K6⟩ := K
  have e : A.slots.size = cs.length := K3.trans hlen
  have hat : ∀ (i : Nat) (hi : i < cs.length), A.slots[i]? = some (.int cs[i]) := fun i hi => by rw [K5 i (by omega)]; simp [List.getD_eq_getElem?_getD, hi]
  have hcv : ∀ (i : Nat) (hi : i < cs.length), cv A i = cs[i] := fun i hi => by unfold cv; rw [hat i hi]
  have hty : Typed .char A := fun i v hv => by
    have hi : i < A.slots.size := (Array.getElem?_eq_some_iff.mp hv).1
    have q := K5 i hi
    rw [hv] at q
    rw [Option.some.inj q]
    exact K6 i hi
  refine Back.mono (back hZ hw wi E V C K1 hty S hz (by omega) (by omega) (fun i hi => by rw [hcv i (by omega)]; exact hall _ (List.getElem_mem _)) hfr hlo) (fun P a hp => ⟨hp.1, hp.2.1, hp.2.2.1, by rw [e]; exact hp.2.2.2⟩) (fun P a v B hp hq => ?_)
  obtain ⟨L, ⟨q1, q2, q3, q4, q5, q6, q7, ⟨V', v1, v2, v3, v4, v5⟩, q9⟩, hl, hc, hs⟩ := hq
  refine ⟨L, ⟨q1, q2, q3, q4, q5, q6, q7, ⟨V'.cls, v3, V', v1, rfl, by rw [v4, e, hlen], K4, fun i hi => ?_, fun i hi => ?_⟩, q9⟩, hl, hc, by rw [hs, e]⟩
  · have hi' : i < cs.length := by omega
    rw [v5 i (by omega), hcv i hi']; simp [List.getD_eq_getElem?_getD, hi']
  · have hi' : i < cs.length := by omega
    simp only [List.getD_eq_getElem?_getD, List.getElem?_map, List.getElem?_eq_getElem hi', Option.map_some, Option.getD_some]
    exact fits_lo8 _
end StrChars.Road
namespace StrChars.Road
open Jvm Sem ClassFile Op Lib Jvm.Stand Jvm.Free Jvm.Free.XT
/-- WHAT COMES BACK, in the writer's own shape -/
def QV (Z : State) (x : Addr) (N : Int32) (bs : List Int32) (h : Heap) (n0 : Nat) (v : Option Value) (h' : Heap) (L : List Loc) : Prop := v = none ∧ RoadKit.Fr n0 L ∧ RoadKit.Keep h h' [x] ∧ RoadKit.Exa Z h' x ST ∧ RoadKit.Fld Z h' x ST "coder" "B" (.int 0) ∧
  ∃ (t : Addr) (kb : ClassId), n0 ≤ t ∧ h.size ≤ t ∧ ¬ t = x ∧ RoadKit.Fld Z h' x ST "value" "[B" (.ref t) ∧ RoadKit.Arv Z h' t kb .byte N (bs.map Value.int) (.int 0)
/-- **new String(chars) AT A CALL, FOR THE WRITER**: a char[] of n known ints, each 0 to 255 -/
theorem backV {p : Program} {l : Launch} {e : Env} {R : Room} {s : State} {args : Array Value} {below : List Frame} {len W : Nat} {Z : State} {a0 : Array Value} {h : Heap} (hZ : Z.Warmed39 s.vm) (hw : ∀ d ∈ words, d.before a0 Z = true) {kI : Nat} (wi : (Jvm.Cond.instantiable ST kI).before a0 Z = true)
    {x b : Addr} {kC : ClassId} {cs bs : List Int32} {d v0 c0 : Value} {z N : Int32} {n n0 : Nat} (hx0 : n0 ≤ x) (hh0 : n0 ≤ h.size) (E : RoadKit.Exa Z h x ST) (V : RoadKit.Fld Z h x ST "value" "[B" v0) (C : RoadKit.Fld Z h x ST "coder" "B" c0) (K : RoadKit.Arv Z h b kC .char N (cs.map Value.int) d) (S : RoadKit.Sta Z h ST "COMPACT_STRINGS" "Z" (.int z)) (hz : ¬ z = 0)
    (hn : cs.length = n) (hN : N = Int32.ofNat n) (l0 : 0 < n) (l2 : n ≤ 4000) (hp : ∀ c ∈ cs, ¬ c < 0 ∧ ¬ (255 : Int32) < c) (hb : bs = cs.map (fun c => c.toInt8.toInt32)) (hfr : 4 ≤ R.frames) (hlo : W + 65 ≤ R.locals) :
    Back l R p e below s args (⟨"java/lang/String", "<init>", "([C)V"⟩ : MethodName) len W (fun P a => a = #[.ref x, .ref b] ∧ P.U.heap = h ∧ P.cells + 1 ≤ R.cells ∧ P.slots + n ≤ R.slots)
      (fun P _ v B => ∃ L, QV Z x N bs h n0 v B.U.heap L ∧ B.locs = P.locs ++ L ∧ B.cells = P.cells + 1 ∧ B.slots = P.slots + n) := by
  subst hn hN hb
  refine Back.mono (backArv hZ hw wi E V C K S hz (n32 (by omega)) l0 (by omega) (fun c hc => (hp c hc).2) hfr hlo) (fun P a hp => hp) (fun P a v B hp hq => ?_)
  obtain ⟨L, ⟨q1, q2, q3, q4, q5, q6, q7, ⟨kb, v1, v2⟩, q9⟩, hl, hc, hs⟩ := hq
  exact ⟨L, ⟨q1, fun y hy => by rw [q2 y hy]; exact hx0, q3, q5, q7, h.size, kb, hh0, Nat.le_refl _, Nat.ne_of_gt E.lt, q6, by rw [List.map_map]; exact v2⟩, hl, hc, hs⟩
end StrChars.Road
end Jvm.Pilot.@@N@@
namespace Jvm.Pilot.@@N@@
open Jvm Jvm.ClassFile Sem Op Lib Jvm.Free Jvm.Stand Jvm.LawKit Jvm.RoadKit Bundle Jvm.Pilot.@@N@@.Jvm.D
theorem w0 {a0 : Array Value} {Z : State} (hw : ∀ d ∈ tables_1, d.before a0 Z = true) : (Jvm.Cond.constant "com/example/frugal_scheduler/frugalscheduler/plan/ViolationOfPlanPinLaw" (51 : Nat) (2147483647 : Int32)).before a0 Z = true := hw _ (List.mem_of_getElem? (i := 0) rfl)
theorem w1 {a0 : Array Value} {Z : State} (hw : ∀ d ∈ tables_1, d.before a0 Z = true) : (Jvm.Cond.methodLink "com/example/frugal_scheduler/frugalscheduler/plan/ViolationOfPlanPinLaw" (52 : Nat) ({ cls := "com/example/frugal_scheduler/frugalscheduler/plan/ViolationOfPlanPinLaw", name := "pick", desc := "(I)Lcom/example/frugal_scheduler/frugalscheduler/plan/Rule;" } : Jvm.MethodName)).before a0 Z = true := hw _ (List.mem_of_getElem? (i := 1) rfl)
theorem w2 {a0 : Array Value} {Z : State} (hw : ∀ d ∈ tables_1, d.before a0 Z = true) : (Jvm.Cond.static ({ cls := "com/example/frugal_scheduler/frugalscheduler/plan/ViolationOfPlanPinLaw", name := "pick", desc := "(I)Lcom/example/frugal_scheduler/frugalscheduler/plan/Rule;" } : Jvm.MethodName)).before a0 Z = true := hw _ (List.mem_of_getElem? (i := 2) rfl)
theorem w3 {a0 : Array Value} {Z : State} (hw : ∀ d ∈ tables_1, d.before a0 Z = true) : (Jvm.Cond.initialized "com/example/frugal_scheduler/frugalscheduler/plan/ViolationOfPlanPinLaw").before a0 Z = true := hw _ (List.mem_of_getElem? (i := 3) rfl)
theorem w4 {a0 : Array Value} {Z : State} (hw : ∀ d ∈ tables_1, d.before a0 Z = true) : (Jvm.Cond.code ({ cls := "com/example/frugal_scheduler/frugalscheduler/plan/ViolationOfPlanPinLaw", name := "pick", desc := "(I)Lcom/example/frugal_scheduler/frugalscheduler/plan/Rule;" } : Jvm.MethodName) method_2_code (1 : Nat) (Option.some (Jvm.ClassFile.FieldType.object "com/example/frugal_scheduler/frugalscheduler/plan/Rule"))).before a0 Z = true := hw _ (List.mem_of_getElem? (i := 4) rfl)
theorem w5 {a0 : Array Value} {Z : State} (hw : ∀ d ∈ tables_1, d.before a0 Z = true) : (Jvm.Cond.fieldLink "com/example/frugal_scheduler/frugalscheduler/plan/ViolationOfPlanPinLaw" (7 : Nat) "com/example/frugal_scheduler/frugalscheduler/plan/Rule" "TASK_MISSING" "Lcom/example/frugal_scheduler/frugalscheduler/plan/Rule;").before a0 Z = true := hw _ (List.mem_of_getElem? (i := 5) rfl)
theorem w6 {a0 : Array Value} {Z : State} (hw : ∀ d ∈ tables_1, d.before a0 Z = true) : (Jvm.Cond.initialized "com/example/frugal_scheduler/frugalscheduler/plan/Rule").before a0 Z = true := hw _ (List.mem_of_getElem? (i := 6) rfl)
theorem w7 {a0 : Array Value} {Z : State} (hw : ∀ d ∈ tables_1, d.before a0 Z = true) : (Jvm.Cond.laysStatic "com/example/frugal_scheduler/frugalscheduler/plan/Rule" "TASK_MISSING" "Lcom/example/frugal_scheduler/frugalscheduler/plan/Rule;").before a0 Z = true := hw _ (List.mem_of_getElem? (i := 7) rfl)
theorem w8 {a0 : Array Value} {Z : State} (hw : ∀ d ∈ tables_1, d.before a0 Z = true) : (Jvm.Cond.methodLink "com/example/frugal_scheduler/frugalscheduler/plan/ViolationOfPlanPinLaw" (58 : Nat) ({ cls := "com/example/frugal_scheduler/frugalscheduler/plan/ViolationOfPlanPinLaw", name := "text", desc := "(ICCC)Ljava/lang/String;" } : Jvm.MethodName)).before a0 Z = true := hw _ (List.mem_of_getElem? (i := 8) rfl)
theorem w9 {a0 : Array Value} {Z : State} (hw : ∀ d ∈ tables_1, d.before a0 Z = true) : (Jvm.Cond.static ({ cls := "com/example/frugal_scheduler/frugalscheduler/plan/ViolationOfPlanPinLaw", name := "text", desc := "(ICCC)Ljava/lang/String;" } : Jvm.MethodName)).before a0 Z = true := hw _ (List.mem_of_getElem? (i := 9) rfl)
theorem w10 {a0 : Array Value} {Z : State} (hw : ∀ d ∈ tables_1, d.before a0 Z = true) : (Jvm.Cond.code ({ cls := "com/example/frugal_scheduler/frugalscheduler/plan/ViolationOfPlanPinLaw", name := "text", desc := "(ICCC)Ljava/lang/String;" } : Jvm.MethodName) method_3_code (4 : Nat) (Option.some (Jvm.ClassFile.FieldType.object "java/lang/String"))).before a0 Z = true := hw _ (List.mem_of_getElem? (i := 10) rfl)
theorem w11 {a0 : Array Value} {Z : State} (hw : ∀ d ∈ tables_1, d.before a0 Z = true) : (Jvm.Cond.classLink "com/example/frugal_scheduler/frugalscheduler/plan/ViolationOfPlanPinLaw" (46 : Nat) "java/lang/String").before a0 Z = true := hw _ (List.mem_of_getElem? (i := 11) rfl)
theorem w12 {a0 : Array Value} {Z : State} (hw : ∀ d ∈ tables_1, d.before a0 Z = true) : (Jvm.Cond.instantiable "java/lang/String" (4 : Nat)).before a0 Z = true := hw _ (List.mem_of_getElem? (i := 12) rfl)
theorem w13 {a0 : Array Value} {Z : State} (hw : ∀ d ∈ tables_1, d.before a0 Z = true) : (Jvm.Cond.initialized "java/lang/String").before a0 Z = true := hw _ (List.mem_of_getElem? (i := 13) rfl)
theorem w14 {a0 : Array Value} {Z : State} (hw : ∀ d ∈ tables_1, d.before a0 Z = true) : (Jvm.Cond.arrayClass Jvm.ClassFile.FieldType.char).before a0 Z = true := hw _ (List.mem_of_getElem? (i := 14) rfl)
theorem w15 {a0 : Array Value} {Z : State} (hw : ∀ d ∈ tables_1, d.before a0 Z = true) : (Jvm.Cond.methodLink "com/example/frugal_scheduler/frugalscheduler/plan/ViolationOfPlanPinLaw" (48 : Nat) ({ cls := "java/lang/String", name := "<init>", desc := "([C)V" } : Jvm.MethodName)).before a0 Z = true := hw _ (List.mem_of_getElem? (i := 15) rfl)
theorem w16 {a0 : Array Value} {Z : State} (hw : ∀ d ∈ tables_1, d.before a0 Z = true) : (Jvm.Cond.instanceMethod ({ cls := "java/lang/String", name := "<init>", desc := "([C)V" } : Jvm.MethodName)).before a0 Z = true := hw _ (List.mem_of_getElem? (i := 16) rfl)
theorem w17 {a0 : Array Value} {Z : State} (hw : ∀ d ∈ tables_1, d.before a0 Z = true) : (Jvm.Cond.code ({ cls := "java/lang/String", name := "<init>", desc := "([C)V" } : Jvm.MethodName) jdk_42_method_3_code (2 : Nat) (Option.none : Option Jvm.ClassFile.FieldType)).before a0 Z = true := hw _ (List.mem_of_getElem? (i := 17) rfl)
theorem w18 {a0 : Array Value} {Z : State} (hw : ∀ d ∈ tables_1, d.before a0 Z = true) : (Jvm.Cond.methodLink "java/lang/String" (27 : Nat) ({ cls := "java/lang/String", name := "<init>", desc := "([CIILjava/lang/Void;)V" } : Jvm.MethodName)).before a0 Z = true := hw _ (List.mem_of_getElem? (i := 18) rfl)
theorem w19 {a0 : Array Value} {Z : State} (hw : ∀ d ∈ tables_1, d.before a0 Z = true) : (Jvm.Cond.instanceMethod ({ cls := "java/lang/String", name := "<init>", desc := "([CIILjava/lang/Void;)V" } : Jvm.MethodName)).before a0 Z = true := hw _ (List.mem_of_getElem? (i := 19) rfl)
theorem w21 {a0 : Array Value} {Z : State} (hw : ∀ d ∈ tables_1, d.before a0 Z = true) : (Jvm.Cond.code ({ cls := "java/lang/String", name := "<init>", desc := "([CIILjava/lang/Void;)V" } : Jvm.MethodName) jdk_42_method_149_code (6 : Nat) (Option.none : Option Jvm.ClassFile.FieldType)).before a0 Z = true := hw _ (List.mem_of_getElem? (i := 21) rfl)
theorem w22 {a0 : Array Value} {Z : State} (hw : ∀ d ∈ tables_1, d.before a0 Z = true) : (Jvm.Cond.methodLink "java/lang/String" (1 : Nat) ({ cls := "java/lang/Object", name := "<init>", desc := "()V" } : Jvm.MethodName)).before a0 Z = true := hw _ (List.mem_of_getElem? (i := 22) rfl)
theorem w23 {a0 : Array Value} {Z : State} (hw : ∀ d ∈ tables_1, d.before a0 Z = true) : (Jvm.Cond.instanceMethod ({ cls := "java/lang/Object", name := "<init>", desc := "()V" } : Jvm.MethodName)).before a0 Z = true := hw _ (List.mem_of_getElem? (i := 23) rfl)
theorem w24 {a0 : Array Value} {Z : State} (hw : ∀ d ∈ tables_1, d.before a0 Z = true) : (Jvm.Cond.code ({ cls := "java/lang/Object", name := "<init>", desc := "()V" } : Jvm.MethodName) object_method_1_code (1 : Nat) (Option.none : Option Jvm.ClassFile.FieldType)).before a0 Z = true := hw _ (List.mem_of_getElem? (i := 24) rfl)
theorem w30 {a0 : Array Value} {Z : State} (hw : ∀ d ∈ tables_1, d.before a0 Z = true) : (Jvm.Cond.arrayClass Jvm.ClassFile.FieldType.byte).before a0 Z = true := hw _ (List.mem_of_getElem? (i := 30) rfl)
theorem w37 {a0 : Array Value} {Z : State} (hw : ∀ d ∈ tables_1, d.before a0 Z = true) : (Jvm.Cond.fieldLink "java/lang/String" (15 : Nat) "java/lang/String" "coder" "B").before a0 Z = true := hw _ (List.mem_of_getElem? (i := 37) rfl)
theorem w38 {a0 : Array Value} {Z : State} (hw : ∀ d ∈ tables_1, d.before a0 Z = true) : (Jvm.Cond.laysFinal "java/lang/String" "java/lang/String" "coder" "B").before a0 Z = true := hw _ (List.mem_of_getElem? (i := 38) rfl)
theorem w39 {a0 : Array Value} {Z : State} (hw : ∀ d ∈ tables_1, d.before a0 Z = true) : (Jvm.Cond.fieldLink "java/lang/String" (9 : Nat) "java/lang/String" "value" "[B").before a0 Z = true := hw _ (List.mem_of_getElem? (i := 39) rfl)
theorem w40 {a0 : Array Value} {Z : State} (hw : ∀ d ∈ tables_1, d.before a0 Z = true) : (Jvm.Cond.laysFinal "java/lang/String" "java/lang/String" "value" "[B").before a0 Z = true := hw _ (List.mem_of_getElem? (i := 40) rfl)
theorem w41 {a0 : Array Value} {Z : State} (hw : ∀ d ∈ tables_1, d.before a0 Z = true) : (Jvm.Cond.methodLink "com/example/frugal_scheduler/frugalscheduler/plan/ViolationOfPlanPinLaw" (62 : Nat) ({ cls := "com/example/frugal_scheduler/frugalscheduler/plan/Violation", name := "ofPlan", desc := "(Lcom/example/frugal_scheduler/frugalscheduler/plan/Rule;Ljava/lang/String;)Lcom/example/frugal_scheduler/frugalscheduler/plan/Violation;" } : Jvm.MethodName)).before a0 Z = true := hw _ (List.mem_of_getElem? (i := 41) rfl)
theorem w42 {a0 : Array Value} {Z : State} (hw : ∀ d ∈ tables_1, d.before a0 Z = true) : (Jvm.Cond.static ({ cls := "com/example/frugal_scheduler/frugalscheduler/plan/Violation", name := "ofPlan", desc := "(Lcom/example/frugal_scheduler/frugalscheduler/plan/Rule;Ljava/lang/String;)Lcom/example/frugal_scheduler/frugalscheduler/plan/Violation;" } : Jvm.MethodName)).before a0 Z = true := hw _ (List.mem_of_getElem? (i := 42) rfl)
theorem w43 {a0 : Array Value} {Z : State} (hw : ∀ d ∈ tables_1, d.before a0 Z = true) : (Jvm.Cond.initialized "com/example/frugal_scheduler/frugalscheduler/plan/Violation").before a0 Z = true := hw _ (List.mem_of_getElem? (i := 43) rfl)
theorem w44 {a0 : Array Value} {Z : State} (hw : ∀ d ∈ tables_1, d.before a0 Z = true) : (Jvm.Cond.code ({ cls := "com/example/frugal_scheduler/frugalscheduler/plan/Violation", name := "ofPlan", desc := "(Lcom/example/frugal_scheduler/frugalscheduler/plan/Rule;Ljava/lang/String;)Lcom/example/frugal_scheduler/frugalscheduler/plan/Violation;" } : Jvm.MethodName) prog_12_method_4_code (2 : Nat) (Option.some (Jvm.ClassFile.FieldType.object "com/example/frugal_scheduler/frugalscheduler/plan/Violation"))).before a0 Z = true := hw _ (List.mem_of_getElem? (i := 44) rfl)
theorem w45 {a0 : Array Value} {Z : State} (hw : ∀ d ∈ tables_1, d.before a0 Z = true) : (Jvm.Cond.classLink "com/example/frugal_scheduler/frugalscheduler/plan/Violation" (18 : Nat) "com/example/frugal_scheduler/frugalscheduler/plan/Violation").before a0 Z = true := hw _ (List.mem_of_getElem? (i := 45) rfl)
theorem w46 {a0 : Array Value} {Z : State} (hw : ∀ d ∈ tables_1, d.before a0 Z = true) : (Jvm.Cond.instantiable "com/example/frugal_scheduler/frugalscheduler/plan/Violation" (4 : Nat)).before a0 Z = true := hw _ (List.mem_of_getElem? (i := 46) rfl)
theorem w47 {a0 : Array Value} {Z : State} (hw : ∀ d ∈ tables_1, d.before a0 Z = true) : (Jvm.Cond.methodLink "com/example/frugal_scheduler/frugalscheduler/plan/Violation" (36 : Nat) ({ cls := "com/example/frugal_scheduler/frugalscheduler/plan/Violation", name := "<init>", desc := "(Lcom/example/frugal_scheduler/frugalscheduler/plan/Rule;Ljava/lang/String;Ljava/lang/String;Ljava/lang/String;)V" } : Jvm.MethodName)).before a0 Z = true := hw _ (List.mem_of_getElem? (i := 47) rfl)
theorem w48 {a0 : Array Value} {Z : State} (hw : ∀ d ∈ tables_1, d.before a0 Z = true) : (Jvm.Cond.instanceMethod ({ cls := "com/example/frugal_scheduler/frugalscheduler/plan/Violation", name := "<init>", desc := "(Lcom/example/frugal_scheduler/frugalscheduler/plan/Rule;Ljava/lang/String;Ljava/lang/String;Ljava/lang/String;)V" } : Jvm.MethodName)).before a0 Z = true := hw _ (List.mem_of_getElem? (i := 48) rfl)
theorem w49 {a0 : Array Value} {Z : State} (hw : ∀ d ∈ tables_1, d.before a0 Z = true) : (Jvm.Cond.code ({ cls := "com/example/frugal_scheduler/frugalscheduler/plan/Violation", name := "<init>", desc := "(Lcom/example/frugal_scheduler/frugalscheduler/plan/Rule;Ljava/lang/String;Ljava/lang/String;Ljava/lang/String;)V" } : Jvm.MethodName) prog_12_method_1_code (5 : Nat) (Option.none : Option Jvm.ClassFile.FieldType)).before a0 Z = true := hw _ (List.mem_of_getElem? (i := 49) rfl)
theorem w50 {a0 : Array Value} {Z : State} (hw : ∀ d ∈ tables_1, d.before a0 Z = true) : (Jvm.Cond.methodLink "com/example/frugal_scheduler/frugalscheduler/plan/Violation" (1 : Nat) ({ cls := "java/lang/Object", name := "<init>", desc := "()V" } : Jvm.MethodName)).before a0 Z = true := hw _ (List.mem_of_getElem? (i := 50) rfl)
theorem w51 {a0 : Array Value} {Z : State} (hw : ∀ d ∈ tables_1, d.before a0 Z = true) : (Jvm.Cond.stringLink "com/example/frugal_scheduler/frugalscheduler/plan/Violation" (7 : Nat) "rule").before a0 Z = true := hw _ (List.mem_of_getElem? (i := 51) rfl)
theorem w52 {a0 : Array Value} {Z : State} (hw : ∀ d ∈ tables_1, d.before a0 Z = true) : (Jvm.Cond.soleField "java/lang/String" "value").before a0 Z = true := hw _ (List.mem_of_getElem? (i := 52) rfl)
theorem w53 {a0 : Array Value} {Z : State} (hw : ∀ d ∈ tables_1, d.before a0 Z = true) : (Jvm.Cond.soleField "java/lang/String" "coder").before a0 Z = true := hw _ (List.mem_of_getElem? (i := 53) rfl)
theorem w54 {a0 : Array Value} {Z : State} (hw : ∀ d ∈ tables_1, d.before a0 Z = true) : (Jvm.Cond.methodLink "com/example/frugal_scheduler/frugalscheduler/plan/Violation" (9 : Nat) ({ cls := "java/util/Objects", name := "requireNonNull", desc := "(Ljava/lang/Object;Ljava/lang/String;)Ljava/lang/Object;" } : Jvm.MethodName)).before a0 Z = true := hw _ (List.mem_of_getElem? (i := 54) rfl)
theorem w55 {a0 : Array Value} {Z : State} (hw : ∀ d ∈ tables_1, d.before a0 Z = true) : (Jvm.Cond.static ({ cls := "java/util/Objects", name := "requireNonNull", desc := "(Ljava/lang/Object;Ljava/lang/String;)Ljava/lang/Object;" } : Jvm.MethodName)).before a0 Z = true := hw _ (List.mem_of_getElem? (i := 55) rfl)
theorem w56 {a0 : Array Value} {Z : State} (hw : ∀ d ∈ tables_1, d.before a0 Z = true) : (Jvm.Cond.initialized "java/util/Objects").before a0 Z = true := hw _ (List.mem_of_getElem? (i := 56) rfl)
theorem w57 {a0 : Array Value} {Z : State} (hw : ∀ d ∈ tables_1, d.before a0 Z = true) : (Jvm.Cond.code ({ cls := "java/util/Objects", name := "requireNonNull", desc := "(Ljava/lang/Object;Ljava/lang/String;)Ljava/lang/Object;" } : Jvm.MethodName) jdk_31_method_11_code (2 : Nat) (Option.some (Jvm.ClassFile.FieldType.object "java/lang/Object"))).before a0 Z = true := hw _ (List.mem_of_getElem? (i := 57) rfl)
theorem w58 {a0 : Array Value} {Z : State} (hw : ∀ d ∈ tables_1, d.before a0 Z = true) : (Jvm.Cond.classLink "com/example/frugal_scheduler/frugalscheduler/plan/Violation" (15 : Nat) "com/example/frugal_scheduler/frugalscheduler/plan/Rule").before a0 Z = true := hw _ (List.mem_of_getElem? (i := 58) rfl)
theorem w60 {a0 : Array Value} {Z : State} (hw : ∀ d ∈ tables_1, d.before a0 Z = true) : (Jvm.Cond.fieldLink "com/example/frugal_scheduler/frugalscheduler/plan/Violation" (17 : Nat) "com/example/frugal_scheduler/frugalscheduler/plan/Violation" "rule" "Lcom/example/frugal_scheduler/frugalscheduler/plan/Rule;").before a0 Z = true := hw _ (List.mem_of_getElem? (i := 60) rfl)
theorem w61 {a0 : Array Value} {Z : State} (hw : ∀ d ∈ tables_1, d.before a0 Z = true) : (Jvm.Cond.laysFinal "com/example/frugal_scheduler/frugalscheduler/plan/Violation" "com/example/frugal_scheduler/frugalscheduler/plan/Violation" "rule" "Lcom/example/frugal_scheduler/frugalscheduler/plan/Rule;").before a0 Z = true := hw _ (List.mem_of_getElem? (i := 61) rfl)
theorem w62 {a0 : Array Value} {Z : State} (hw : ∀ d ∈ tables_1, d.before a0 Z = true) : (Jvm.Cond.fieldLink "com/example/frugal_scheduler/frugalscheduler/plan/Violation" (22 : Nat) "com/example/frugal_scheduler/frugalscheduler/plan/Violation" "task" "Ljava/lang/String;").before a0 Z = true := hw _ (List.mem_of_getElem? (i := 62) rfl)
theorem w63 {a0 : Array Value} {Z : State} (hw : ∀ d ∈ tables_1, d.before a0 Z = true) : (Jvm.Cond.laysFinal "com/example/frugal_scheduler/frugalscheduler/plan/Violation" "com/example/frugal_scheduler/frugalscheduler/plan/Violation" "task" "Ljava/lang/String;").before a0 Z = true := hw _ (List.mem_of_getElem? (i := 63) rfl)
theorem w64 {a0 : Array Value} {Z : State} (hw : ∀ d ∈ tables_1, d.before a0 Z = true) : (Jvm.Cond.fieldLink "com/example/frugal_scheduler/frugalscheduler/plan/Violation" (26 : Nat) "com/example/frugal_scheduler/frugalscheduler/plan/Violation" "vm" "Ljava/lang/String;").before a0 Z = true := hw _ (List.mem_of_getElem? (i := 64) rfl)
theorem w65 {a0 : Array Value} {Z : State} (hw : ∀ d ∈ tables_1, d.before a0 Z = true) : (Jvm.Cond.laysFinal "com/example/frugal_scheduler/frugalscheduler/plan/Violation" "com/example/frugal_scheduler/frugalscheduler/plan/Violation" "vm" "Ljava/lang/String;").before a0 Z = true := hw _ (List.mem_of_getElem? (i := 65) rfl)
theorem w66 {a0 : Array Value} {Z : State} (hw : ∀ d ∈ tables_1, d.before a0 Z = true) : (Jvm.Cond.stringLink "com/example/frugal_scheduler/frugalscheduler/plan/Violation" (29 : Nat) "message").before a0 Z = true := hw _ (List.mem_of_getElem? (i := 66) rfl)
theorem w67 {a0 : Array Value} {Z : State} (hw : ∀ d ∈ tables_1, d.before a0 Z = true) : (Jvm.Cond.classLink "com/example/frugal_scheduler/frugalscheduler/plan/Violation" (31 : Nat) "java/lang/String").before a0 Z = true := hw _ (List.mem_of_getElem? (i := 67) rfl)
theorem w68 {a0 : Array Value} {Z : State} (hw : ∀ d ∈ tables_1, d.before a0 Z = true) : (Jvm.Cond.fieldLink "com/example/frugal_scheduler/frugalscheduler/plan/Violation" (33 : Nat) "com/example/frugal_scheduler/frugalscheduler/plan/Violation" "message" "Ljava/lang/String;").before a0 Z = true := hw _ (List.mem_of_getElem? (i := 68) rfl)
theorem w69 {a0 : Array Value} {Z : State} (hw : ∀ d ∈ tables_1, d.before a0 Z = true) : (Jvm.Cond.laysFinal "com/example/frugal_scheduler/frugalscheduler/plan/Violation" "com/example/frugal_scheduler/frugalscheduler/plan/Violation" "message" "Ljava/lang/String;").before a0 Z = true := hw _ (List.mem_of_getElem? (i := 69) rfl)
theorem w70 {a0 : Array Value} {Z : State} (hw : ∀ d ∈ tables_1, d.before a0 Z = true) : (Jvm.Cond.methodLink "com/example/frugal_scheduler/frugalscheduler/plan/ViolationOfPlanPinLaw" (68 : Nat) ({ cls := "com/example/frugal_scheduler/frugalscheduler/plan/Violation", name := "getRule", desc := "()Lcom/example/frugal_scheduler/frugalscheduler/plan/Rule;" } : Jvm.MethodName)).before a0 Z = true := hw _ (List.mem_of_getElem? (i := 70) rfl)
theorem w71 {a0 : Array Value} {Z : State} (hw : ∀ d ∈ tables_1, d.before a0 Z = true) : (Jvm.Cond.declares ({ cls := "com/example/frugal_scheduler/frugalscheduler/plan/Violation", name := "getRule", desc := "()Lcom/example/frugal_scheduler/frugalscheduler/plan/Rule;" } : Jvm.MethodName)).before a0 Z = true := hw _ (List.mem_of_getElem? (i := 71) rfl)
theorem w72 {a0 : Array Value} {Z : State} (hw : ∀ d ∈ tables_1, d.before a0 Z = true) : (Jvm.Cond.instanceMethod ({ cls := "com/example/frugal_scheduler/frugalscheduler/plan/Violation", name := "getRule", desc := "()Lcom/example/frugal_scheduler/frugalscheduler/plan/Rule;" } : Jvm.MethodName)).before a0 Z = true := hw _ (List.mem_of_getElem? (i := 72) rfl)
theorem w73 {a0 : Array Value} {Z : State} (hw : ∀ d ∈ tables_1, d.before a0 Z = true) : (Jvm.Cond.selects "com/example/frugal_scheduler/frugalscheduler/plan/Violation" ({ cls := "com/example/frugal_scheduler/frugalscheduler/plan/Violation", name := "getRule", desc := "()Lcom/example/frugal_scheduler/frugalscheduler/plan/Rule;" } : Jvm.MethodName) ({ cls := "com/example/frugal_scheduler/frugalscheduler/plan/Violation", name := "getRule", desc := "()Lcom/example/frugal_scheduler/frugalscheduler/plan/Rule;" } : Jvm.MethodName)).before a0 Z = true := hw _ (List.mem_of_getElem? (i := 73) rfl)
theorem w74 {a0 : Array Value} {Z : State} (hw : ∀ d ∈ tables_1, d.before a0 Z = true) : (Jvm.Cond.code ({ cls := "com/example/frugal_scheduler/frugalscheduler/plan/Violation", name := "getRule", desc := "()Lcom/example/frugal_scheduler/frugalscheduler/plan/Rule;" } : Jvm.MethodName) prog_12_method_5_code (1 : Nat) (Option.some (Jvm.ClassFile.FieldType.object "com/example/frugal_scheduler/frugalscheduler/plan/Rule"))).before a0 Z = true := hw _ (List.mem_of_getElem? (i := 74) rfl)
theorem w75 {a0 : Array Value} {Z : State} (hw : ∀ d ∈ tables_1, d.before a0 Z = true) : (Jvm.Cond.methodLink "com/example/frugal_scheduler/frugalscheduler/plan/ViolationOfPlanPinLaw" (72 : Nat) ({ cls := "com/example/frugal_scheduler/frugalscheduler/plan/Violation", name := "getMessage", desc := "()Ljava/lang/String;" } : Jvm.MethodName)).before a0 Z = true := hw _ (List.mem_of_getElem? (i := 75) rfl)
theorem w76 {a0 : Array Value} {Z : State} (hw : ∀ d ∈ tables_1, d.before a0 Z = true) : (Jvm.Cond.declares ({ cls := "com/example/frugal_scheduler/frugalscheduler/plan/Violation", name := "getMessage", desc := "()Ljava/lang/String;" } : Jvm.MethodName)).before a0 Z = true := hw _ (List.mem_of_getElem? (i := 76) rfl)
theorem w77 {a0 : Array Value} {Z : State} (hw : ∀ d ∈ tables_1, d.before a0 Z = true) : (Jvm.Cond.instanceMethod ({ cls := "com/example/frugal_scheduler/frugalscheduler/plan/Violation", name := "getMessage", desc := "()Ljava/lang/String;" } : Jvm.MethodName)).before a0 Z = true := hw _ (List.mem_of_getElem? (i := 77) rfl)
theorem w78 {a0 : Array Value} {Z : State} (hw : ∀ d ∈ tables_1, d.before a0 Z = true) : (Jvm.Cond.selects "com/example/frugal_scheduler/frugalscheduler/plan/Violation" ({ cls := "com/example/frugal_scheduler/frugalscheduler/plan/Violation", name := "getMessage", desc := "()Ljava/lang/String;" } : Jvm.MethodName) ({ cls := "com/example/frugal_scheduler/frugalscheduler/plan/Violation", name := "getMessage", desc := "()Ljava/lang/String;" } : Jvm.MethodName)).before a0 Z = true := hw _ (List.mem_of_getElem? (i := 78) rfl)
theorem w79 {a0 : Array Value} {Z : State} (hw : ∀ d ∈ tables_1, d.before a0 Z = true) : (Jvm.Cond.code ({ cls := "com/example/frugal_scheduler/frugalscheduler/plan/Violation", name := "getMessage", desc := "()Ljava/lang/String;" } : Jvm.MethodName) prog_12_method_8_code (1 : Nat) (Option.some (Jvm.ClassFile.FieldType.object "java/lang/String"))).before a0 Z = true := hw _ (List.mem_of_getElem? (i := 79) rfl)
theorem w80 {a0 : Array Value} {Z : State} (hw : ∀ d ∈ tables_1, d.before a0 Z = true) : (Jvm.Cond.methodLink "com/example/frugal_scheduler/frugalscheduler/plan/ViolationOfPlanPinLaw" (76 : Nat) ({ cls := "java/lang/String", name := "equals", desc := "(Ljava/lang/Object;)Z" } : Jvm.MethodName)).before a0 Z = true := hw _ (List.mem_of_getElem? (i := 80) rfl)
theorem w81 {a0 : Array Value} {Z : State} (hw : ∀ d ∈ tables_1, d.before a0 Z = true) : (Jvm.Cond.declares ({ cls := "java/lang/String", name := "equals", desc := "(Ljava/lang/Object;)Z" } : Jvm.MethodName)).before a0 Z = true := hw _ (List.mem_of_getElem? (i := 81) rfl)
theorem w82 {a0 : Array Value} {Z : State} (hw : ∀ d ∈ tables_1, d.before a0 Z = true) : (Jvm.Cond.instanceMethod ({ cls := "java/lang/String", name := "equals", desc := "(Ljava/lang/Object;)Z" } : Jvm.MethodName)).before a0 Z = true := hw _ (List.mem_of_getElem? (i := 82) rfl)
theorem w83 {a0 : Array Value} {Z : State} (hw : ∀ d ∈ tables_1, d.before a0 Z = true) : (Jvm.Cond.selects "java/lang/String" ({ cls := "java/lang/String", name := "equals", desc := "(Ljava/lang/Object;)Z" } : Jvm.MethodName) ({ cls := "java/lang/String", name := "equals", desc := "(Ljava/lang/Object;)Z" } : Jvm.MethodName)).before a0 Z = true := hw _ (List.mem_of_getElem? (i := 83) rfl)
theorem w84 {a0 : Array Value} {Z : State} (hw : ∀ d ∈ tables_1, d.before a0 Z = true) : (Jvm.Cond.code ({ cls := "java/lang/String", name := "equals", desc := "(Ljava/lang/Object;)Z" } : Jvm.MethodName) jdk_42_method_66_code (3 : Nat) (Option.some Jvm.ClassFile.FieldType.boolean)).before a0 Z = true := hw _ (List.mem_of_getElem? (i := 84) rfl)
theorem w85 {a0 : Array Value} {Z : State} (hw : ∀ d ∈ tables_1, d.before a0 Z = true) : (Jvm.Cond.methodLink "com/example/frugal_scheduler/frugalscheduler/plan/ViolationOfPlanPinLaw" (80 : Nat) ({ cls := "com/example/frugal_scheduler/frugalscheduler/plan/Violation", name := "getTask", desc := "()Ljava/util/Optional;" } : Jvm.MethodName)).before a0 Z = true := hw _ (List.mem_of_getElem? (i := 85) rfl)
theorem w86 {a0 : Array Value} {Z : State} (hw : ∀ d ∈ tables_1, d.before a0 Z = true) : (Jvm.Cond.declares ({ cls := "com/example/frugal_scheduler/frugalscheduler/plan/Violation", name := "getTask", desc := "()Ljava/util/Optional;" } : Jvm.MethodName)).before a0 Z = true := hw _ (List.mem_of_getElem? (i := 86) rfl)
theorem w87 {a0 : Array Value} {Z : State} (hw : ∀ d ∈ tables_1, d.before a0 Z = true) : (Jvm.Cond.instanceMethod ({ cls := "com/example/frugal_scheduler/frugalscheduler/plan/Violation", name := "getTask", desc := "()Ljava/util/Optional;" } : Jvm.MethodName)).before a0 Z = true := hw _ (List.mem_of_getElem? (i := 87) rfl)
theorem w88 {a0 : Array Value} {Z : State} (hw : ∀ d ∈ tables_1, d.before a0 Z = true) : (Jvm.Cond.selects "com/example/frugal_scheduler/frugalscheduler/plan/Violation" ({ cls := "com/example/frugal_scheduler/frugalscheduler/plan/Violation", name := "getTask", desc := "()Ljava/util/Optional;" } : Jvm.MethodName) ({ cls := "com/example/frugal_scheduler/frugalscheduler/plan/Violation", name := "getTask", desc := "()Ljava/util/Optional;" } : Jvm.MethodName)).before a0 Z = true := hw _ (List.mem_of_getElem? (i := 88) rfl)
theorem w89 {a0 : Array Value} {Z : State} (hw : ∀ d ∈ tables_1, d.before a0 Z = true) : (Jvm.Cond.code ({ cls := "com/example/frugal_scheduler/frugalscheduler/plan/Violation", name := "getTask", desc := "()Ljava/util/Optional;" } : Jvm.MethodName) prog_12_method_6_code (1 : Nat) (Option.some (Jvm.ClassFile.FieldType.object "java/util/Optional"))).before a0 Z = true := hw _ (List.mem_of_getElem? (i := 89) rfl)
theorem w90 {a0 : Array Value} {Z : State} (hw : ∀ d ∈ tables_1, d.before a0 Z = true) : (Jvm.Cond.methodLink "com/example/frugal_scheduler/frugalscheduler/plan/Violation" (40 : Nat) ({ cls := "java/util/Optional", name := "ofNullable", desc := "(Ljava/lang/Object;)Ljava/util/Optional;" } : Jvm.MethodName)).before a0 Z = true := hw _ (List.mem_of_getElem? (i := 90) rfl)
theorem w91 {a0 : Array Value} {Z : State} (hw : ∀ d ∈ tables_1, d.before a0 Z = true) : (Jvm.Cond.static ({ cls := "java/util/Optional", name := "ofNullable", desc := "(Ljava/lang/Object;)Ljava/util/Optional;" } : Jvm.MethodName)).before a0 Z = true := hw _ (List.mem_of_getElem? (i := 91) rfl)
theorem w92 {a0 : Array Value} {Z : State} (hw : ∀ d ∈ tables_1, d.before a0 Z = true) : (Jvm.Cond.initialized "java/util/Optional").before a0 Z = true := hw _ (List.mem_of_getElem? (i := 92) rfl)
theorem w93 {a0 : Array Value} {Z : State} (hw : ∀ d ∈ tables_1, d.before a0 Z = true) : (Jvm.Cond.code ({ cls := "java/util/Optional", name := "ofNullable", desc := "(Ljava/lang/Object;)Ljava/util/Optional;" } : Jvm.MethodName) jdk_32_method_4_code (1 : Nat) (Option.some (Jvm.ClassFile.FieldType.object "java/util/Optional"))).before a0 Z = true := hw _ (List.mem_of_getElem? (i := 93) rfl)
theorem w94 {a0 : Array Value} {Z : State} (hw : ∀ d ∈ tables_1, d.before a0 Z = true) : (Jvm.Cond.fieldLink "java/util/Optional" (1 : Nat) "java/util/Optional" "EMPTY" "Ljava/util/Optional;").before a0 Z = true := hw _ (List.mem_of_getElem? (i := 94) rfl)
theorem w95 {a0 : Array Value} {Z : State} (hw : ∀ d ∈ tables_1, d.before a0 Z = true) : (Jvm.Cond.methodLink "com/example/frugal_scheduler/frugalscheduler/plan/ViolationOfPlanPinLaw" (84 : Nat) ({ cls := "java/util/Optional", name := "isPresent", desc := "()Z" } : Jvm.MethodName)).before a0 Z = true := hw _ (List.mem_of_getElem? (i := 95) rfl)
theorem w96 {a0 : Array Value} {Z : State} (hw : ∀ d ∈ tables_1, d.before a0 Z = true) : (Jvm.Cond.declares ({ cls := "java/util/Optional", name := "isPresent", desc := "()Z" } : Jvm.MethodName)).before a0 Z = true := hw _ (List.mem_of_getElem? (i := 96) rfl)
theorem w97 {a0 : Array Value} {Z : State} (hw : ∀ d ∈ tables_1, d.before a0 Z = true) : (Jvm.Cond.instanceMethod ({ cls := "java/util/Optional", name := "isPresent", desc := "()Z" } : Jvm.MethodName)).before a0 Z = true := hw _ (List.mem_of_getElem? (i := 97) rfl)
theorem w98 {a0 : Array Value} {Z : State} (hw : ∀ d ∈ tables_1, d.before a0 Z = true) : (Jvm.Cond.selects "java/util/Optional" ({ cls := "java/util/Optional", name := "isPresent", desc := "()Z" } : Jvm.MethodName) ({ cls := "java/util/Optional", name := "isPresent", desc := "()Z" } : Jvm.MethodName)).before a0 Z = true := hw _ (List.mem_of_getElem? (i := 98) rfl)
theorem w99 {a0 : Array Value} {Z : State} (hw : ∀ d ∈ tables_1, d.before a0 Z = true) : (Jvm.Cond.code ({ cls := "java/util/Optional", name := "isPresent", desc := "()Z" } : Jvm.MethodName) jdk_32_method_6_code (1 : Nat) (Option.some Jvm.ClassFile.FieldType.boolean)).before a0 Z = true := hw _ (List.mem_of_getElem? (i := 99) rfl)
theorem w100 {a0 : Array Value} {Z : State} (hw : ∀ d ∈ tables_1, d.before a0 Z = true) : (Jvm.Cond.fieldLink "java/util/Optional" (13 : Nat) "java/util/Optional" "value" "Ljava/lang/Object;").before a0 Z = true := hw _ (List.mem_of_getElem? (i := 100) rfl)
theorem w102 {a0 : Array Value} {Z : State} (hw : ∀ d ∈ tables_1, d.before a0 Z = true) : (Jvm.Cond.methodLink "com/example/frugal_scheduler/frugalscheduler/plan/ViolationOfPlanPinLaw" (90 : Nat) ({ cls := "com/example/frugal_scheduler/frugalscheduler/plan/Violation", name := "getVm", desc := "()Ljava/util/Optional;" } : Jvm.MethodName)).before a0 Z = true := hw _ (List.mem_of_getElem? (i := 102) rfl)
theorem w103 {a0 : Array Value} {Z : State} (hw : ∀ d ∈ tables_1, d.before a0 Z = true) : (Jvm.Cond.declares ({ cls := "com/example/frugal_scheduler/frugalscheduler/plan/Violation", name := "getVm", desc := "()Ljava/util/Optional;" } : Jvm.MethodName)).before a0 Z = true := hw _ (List.mem_of_getElem? (i := 103) rfl)
theorem w104 {a0 : Array Value} {Z : State} (hw : ∀ d ∈ tables_1, d.before a0 Z = true) : (Jvm.Cond.instanceMethod ({ cls := "com/example/frugal_scheduler/frugalscheduler/plan/Violation", name := "getVm", desc := "()Ljava/util/Optional;" } : Jvm.MethodName)).before a0 Z = true := hw _ (List.mem_of_getElem? (i := 104) rfl)
theorem w105 {a0 : Array Value} {Z : State} (hw : ∀ d ∈ tables_1, d.before a0 Z = true) : (Jvm.Cond.selects "com/example/frugal_scheduler/frugalscheduler/plan/Violation" ({ cls := "com/example/frugal_scheduler/frugalscheduler/plan/Violation", name := "getVm", desc := "()Ljava/util/Optional;" } : Jvm.MethodName) ({ cls := "com/example/frugal_scheduler/frugalscheduler/plan/Violation", name := "getVm", desc := "()Ljava/util/Optional;" } : Jvm.MethodName)).before a0 Z = true := hw _ (List.mem_of_getElem? (i := 105) rfl)
theorem w106 {a0 : Array Value} {Z : State} (hw : ∀ d ∈ tables_1, d.before a0 Z = true) : (Jvm.Cond.code ({ cls := "com/example/frugal_scheduler/frugalscheduler/plan/Violation", name := "getVm", desc := "()Ljava/util/Optional;" } : Jvm.MethodName) prog_12_method_7_code (1 : Nat) (Option.some (Jvm.ClassFile.FieldType.object "java/util/Optional"))).before a0 Z = true := hw _ (List.mem_of_getElem? (i := 106) rfl)
theorem w107 {a0 : Array Value} {Z : State} (hw : ∀ d ∈ tables_1, d.before a0 Z = true) : (Jvm.Cond.fieldLink "com/example/frugal_scheduler/frugalscheduler/plan/ViolationOfPlanPinLaw" (13 : Nat) "com/example/frugal_scheduler/frugalscheduler/plan/Rule" "TASK_DUPLICATE" "Lcom/example/frugal_scheduler/frugalscheduler/plan/Rule;").before a0 Z = true := hw _ (List.mem_of_getElem? (i := 107) rfl)
theorem w108 {a0 : Array Value} {Z : State} (hw : ∀ d ∈ tables_1, d.before a0 Z = true) : (Jvm.Cond.laysStatic "com/example/frugal_scheduler/frugalscheduler/plan/Rule" "TASK_DUPLICATE" "Lcom/example/frugal_scheduler/frugalscheduler/plan/Rule;").before a0 Z = true := hw _ (List.mem_of_getElem? (i := 108) rfl)
theorem w109 {a0 : Array Value} {Z : State} (hw : ∀ d ∈ tables_1, d.before a0 Z = true) : (Jvm.Cond.fieldLink "com/example/frugal_scheduler/frugalscheduler/plan/ViolationOfPlanPinLaw" (34 : Nat) "com/example/frugal_scheduler/frugalscheduler/plan/Rule" "OVERLAP" "Lcom/example/frugal_scheduler/frugalscheduler/plan/Rule;").before a0 Z = true := hw _ (List.mem_of_getElem? (i := 109) rfl)
theorem w110 {a0 : Array Value} {Z : State} (hw : ∀ d ∈ tables_1, d.before a0 Z = true) : (Jvm.Cond.laysStatic "com/example/frugal_scheduler/frugalscheduler/plan/Rule" "OVERLAP" "Lcom/example/frugal_scheduler/frugalscheduler/plan/Rule;").before a0 Z = true := hw _ (List.mem_of_getElem? (i := 110) rfl)
theorem w111 {a0 : Array Value} {Z : State} (hw : ∀ d ∈ tables_1, d.before a0 Z = true) : (Jvm.Cond.fieldLink "com/example/frugal_scheduler/frugalscheduler/plan/ViolationOfPlanPinLaw" (43 : Nat) "com/example/frugal_scheduler/frugalscheduler/plan/Rule" "MAKESPAN_MISMATCH" "Lcom/example/frugal_scheduler/frugalscheduler/plan/Rule;").before a0 Z = true := hw _ (List.mem_of_getElem? (i := 111) rfl)
theorem w112 {a0 : Array Value} {Z : State} (hw : ∀ d ∈ tables_1, d.before a0 Z = true) : (Jvm.Cond.laysStatic "com/example/frugal_scheduler/frugalscheduler/plan/Rule" "MAKESPAN_MISMATCH" "Lcom/example/frugal_scheduler/frugalscheduler/plan/Rule;").before a0 Z = true := hw _ (List.mem_of_getElem? (i := 112) rfl)
theorem w113 {a0 : Array Value} {Z : State} (hw : ∀ d ∈ tables_1, d.before a0 Z = true) : (Jvm.Cond.fieldLink "com/example/frugal_scheduler/frugalscheduler/plan/ViolationOfPlanPinLaw" (28 : Nat) "com/example/frugal_scheduler/frugalscheduler/plan/Rule" "PRECEDENCE" "Lcom/example/frugal_scheduler/frugalscheduler/plan/Rule;").before a0 Z = true := hw _ (List.mem_of_getElem? (i := 113) rfl)
theorem w114 {a0 : Array Value} {Z : State} (hw : ∀ d ∈ tables_1, d.before a0 Z = true) : (Jvm.Cond.laysStatic "com/example/frugal_scheduler/frugalscheduler/plan/Rule" "PRECEDENCE" "Lcom/example/frugal_scheduler/frugalscheduler/plan/Rule;").before a0 Z = true := hw _ (List.mem_of_getElem? (i := 114) rfl)
theorem w115 {a0 : Array Value} {Z : State} (hw : ∀ d ∈ tables_1, d.before a0 Z = true) : (Jvm.Cond.fieldLink "com/example/frugal_scheduler/frugalscheduler/plan/ViolationOfPlanPinLaw" (31 : Nat) "com/example/frugal_scheduler/frugalscheduler/plan/Rule" "DURATION" "Lcom/example/frugal_scheduler/frugalscheduler/plan/Rule;").before a0 Z = true := hw _ (List.mem_of_getElem? (i := 115) rfl)
theorem w116 {a0 : Array Value} {Z : State} (hw : ∀ d ∈ tables_1, d.before a0 Z = true) : (Jvm.Cond.laysStatic "com/example/frugal_scheduler/frugalscheduler/plan/Rule" "DURATION" "Lcom/example/frugal_scheduler/frugalscheduler/plan/Rule;").before a0 Z = true := hw _ (List.mem_of_getElem? (i := 116) rfl)
theorem w117 {a0 : Array Value} {Z : State} (hw : ∀ d ∈ tables_1, d.before a0 Z = true) : (Jvm.Cond.fieldLink "com/example/frugal_scheduler/frugalscheduler/plan/ViolationOfPlanPinLaw" (19 : Nat) "com/example/frugal_scheduler/frugalscheduler/plan/Rule" "UNKNOWN_VM" "Lcom/example/frugal_scheduler/frugalscheduler/plan/Rule;").before a0 Z = true := hw _ (List.mem_of_getElem? (i := 117) rfl)
theorem w118 {a0 : Array Value} {Z : State} (hw : ∀ d ∈ tables_1, d.before a0 Z = true) : (Jvm.Cond.laysStatic "com/example/frugal_scheduler/frugalscheduler/plan/Rule" "UNKNOWN_VM" "Lcom/example/frugal_scheduler/frugalscheduler/plan/Rule;").before a0 Z = true := hw _ (List.mem_of_getElem? (i := 118) rfl)
theorem w119 {a0 : Array Value} {Z : State} (hw : ∀ d ∈ tables_1, d.before a0 Z = true) : (Jvm.Cond.stringLink "java/lang/String" (7 : Nat) "").before a0 Z = true := hw _ (List.mem_of_getElem? (i := 119) rfl)
theorem w120 {a0 : Array Value} {Z : State} (hw : ∀ d ∈ tables_1, d.before a0 Z = true) : (Jvm.Cond.fieldLink "com/example/frugal_scheduler/frugalscheduler/plan/ViolationOfPlanPinLaw" (40 : Nat) "com/example/frugal_scheduler/frugalscheduler/plan/Rule" "COST_MISMATCH" "Lcom/example/frugal_scheduler/frugalscheduler/plan/Rule;").before a0 Z = true := hw _ (List.mem_of_getElem? (i := 120) rfl)
theorem w121 {a0 : Array Value} {Z : State} (hw : ∀ d ∈ tables_1, d.before a0 Z = true) : (Jvm.Cond.laysStatic "com/example/frugal_scheduler/frugalscheduler/plan/Rule" "COST_MISMATCH" "Lcom/example/frugal_scheduler/frugalscheduler/plan/Rule;").before a0 Z = true := hw _ (List.mem_of_getElem? (i := 121) rfl)
theorem w122 {a0 : Array Value} {Z : State} (hw : ∀ d ∈ tables_1, d.before a0 Z = true) : (Jvm.Cond.fieldLink "com/example/frugal_scheduler/frugalscheduler/plan/ViolationOfPlanPinLaw" (22 : Nat) "com/example/frugal_scheduler/frugalscheduler/plan/Rule" "UNKNOWN_TYPE" "Lcom/example/frugal_scheduler/frugalscheduler/plan/Rule;").before a0 Z = true := hw _ (List.mem_of_getElem? (i := 122) rfl)
theorem w123 {a0 : Array Value} {Z : State} (hw : ∀ d ∈ tables_1, d.before a0 Z = true) : (Jvm.Cond.laysStatic "com/example/frugal_scheduler/frugalscheduler/plan/Rule" "UNKNOWN_TYPE" "Lcom/example/frugal_scheduler/frugalscheduler/plan/Rule;").before a0 Z = true := hw _ (List.mem_of_getElem? (i := 123) rfl)
theorem w124 {a0 : Array Value} {Z : State} (hw : ∀ d ∈ tables_1, d.before a0 Z = true) : (Jvm.Cond.fieldLink "com/example/frugal_scheduler/frugalscheduler/plan/ViolationOfPlanPinLaw" (25 : Nat) "com/example/frugal_scheduler/frugalscheduler/plan/Rule" "BEFORE_READY" "Lcom/example/frugal_scheduler/frugalscheduler/plan/Rule;").before a0 Z = true := hw _ (List.mem_of_getElem? (i := 124) rfl)
theorem w125 {a0 : Array Value} {Z : State} (hw : ∀ d ∈ tables_1, d.before a0 Z = true) : (Jvm.Cond.laysStatic "com/example/frugal_scheduler/frugalscheduler/plan/Rule" "BEFORE_READY" "Lcom/example/frugal_scheduler/frugalscheduler/plan/Rule;").before a0 Z = true := hw _ (List.mem_of_getElem? (i := 125) rfl)
theorem w126 {a0 : Array Value} {Z : State} (hw : ∀ d ∈ tables_1, d.before a0 Z = true) : (Jvm.Cond.fieldLink "com/example/frugal_scheduler/frugalscheduler/plan/ViolationOfPlanPinLaw" (16 : Nat) "com/example/frugal_scheduler/frugalscheduler/plan/Rule" "UNKNOWN_TASK" "Lcom/example/frugal_scheduler/frugalscheduler/plan/Rule;").before a0 Z = true := hw _ (List.mem_of_getElem? (i := 126) rfl)
theorem w127 {a0 : Array Value} {Z : State} (hw : ∀ d ∈ tables_1, d.before a0 Z = true) : (Jvm.Cond.laysStatic "com/example/frugal_scheduler/frugalscheduler/plan/Rule" "UNKNOWN_TASK" "Lcom/example/frugal_scheduler/frugalscheduler/plan/Rule;").before a0 Z = true := hw _ (List.mem_of_getElem? (i := 127) rfl)
theorem w128 {a0 : Array Value} {Z : State} (hw : ∀ d ∈ tables_1, d.before a0 Z = true) : (Jvm.Cond.fieldLink "com/example/frugal_scheduler/frugalscheduler/plan/ViolationOfPlanPinLaw" (37 : Nat) "com/example/frugal_scheduler/frugalscheduler/plan/Rule" "RELEASE_EARLY" "Lcom/example/frugal_scheduler/frugalscheduler/plan/Rule;").before a0 Z = true := hw _ (List.mem_of_getElem? (i := 128) rfl)
theorem w129 {a0 : Array Value} {Z : State} (hw : ∀ d ∈ tables_1, d.before a0 Z = true) : (Jvm.Cond.laysStatic "com/example/frugal_scheduler/frugalscheduler/plan/Rule" "RELEASE_EARLY" "Lcom/example/frugal_scheduler/frugalscheduler/plan/Rule;").before a0 Z = true := hw _ (List.mem_of_getElem? (i := 129) rfl)
theorem pd___CIILjava_lang_Void__V : parseMethodDescriptor "([CIILjava/lang/Void;)V" = some ⟨[(.array .char), .int, .int, (.object "java/lang/Void")], none⟩ := by decide +kernel
theorem pd___C_V : parseMethodDescriptor "([C)V" = some ⟨[(.array .char)], none⟩ := by decide +kernel
theorem pd__Ljava_lang_Object_Ljava_lang_String__Ljava_lang_Object_ : parseMethodDescriptor "(Ljava/lang/Object;Ljava/lang/String;)Ljava/lang/Object;" = some ⟨[(.object "java/lang/Object"), (.object "java/lang/String")], (some (.object "java/lang/Object"))⟩ := by decide +kernel
theorem pd__Lcom_example_frugal_scheduler_frugalscheduler_plan_Rule_Ljava_lang_String_Ljava_lang_String_Ljava_lang_String__V : parseMethodDescriptor "(Lcom/example/frugal_scheduler/frugalscheduler/plan/Rule;Ljava/lang/String;Ljava/lang/String;Ljava/lang/String;)V" = some ⟨[(.object "com/example/frugal_scheduler/frugalscheduler/plan/Rule"), (.object "java/lang/String"), (.object "java/lang/String"), (.object "java/lang/String")], none⟩ := by decide +kernel
theorem pd__Ljava_lang_Object__Ljava_util_Optional_ : parseMethodDescriptor "(Ljava/lang/Object;)Ljava/util/Optional;" = some ⟨[(.object "java/lang/Object")], (some (.object "java/util/Optional"))⟩ := by decide +kernel
theorem pd__I_Lcom_example_frugal_scheduler_frugalscheduler_plan_Rule_ : parseMethodDescriptor "(I)Lcom/example/frugal_scheduler/frugalscheduler/plan/Rule;" = some ⟨[.int], (some (.object "com/example/frugal_scheduler/frugalscheduler/plan/Rule"))⟩ := by decide +kernel
theorem pd__ICCC_Ljava_lang_String_ : parseMethodDescriptor "(ICCC)Ljava/lang/String;" = some ⟨[.int, .char, .char, .char], (some (.object "java/lang/String"))⟩ := by decide +kernel
theorem pd__Lcom_example_frugal_scheduler_frugalscheduler_plan_Rule_Ljava_lang_String__Lcom_example_frugal_scheduler_frugalscheduler_plan_Violation_ : parseMethodDescriptor "(Lcom/example/frugal_scheduler/frugalscheduler/plan/Rule;Ljava/lang/String;)Lcom/example/frugal_scheduler/frugalscheduler/plan/Violation;" = some ⟨[(.object "com/example/frugal_scheduler/frugalscheduler/plan/Rule"), (.object "java/lang/String")], (some (.object "com/example/frugal_scheduler/frugalscheduler/plan/Violation"))⟩ := by decide +kernel
theorem pd___Lcom_example_frugal_scheduler_frugalscheduler_plan_Rule_ : parseMethodDescriptor "()Lcom/example/frugal_scheduler/frugalscheduler/plan/Rule;" = some ⟨[], (some (.object "com/example/frugal_scheduler/frugalscheduler/plan/Rule"))⟩ := by decide +kernel
theorem pd___Ljava_lang_String_ : parseMethodDescriptor "()Ljava/lang/String;" = some ⟨[], (some (.object "java/lang/String"))⟩ := by decide +kernel
theorem pd__Ljava_lang_Object__Z : parseMethodDescriptor "(Ljava/lang/Object;)Z" = some ⟨[(.object "java/lang/Object")], (some .boolean)⟩ := by decide +kernel
theorem pd___Ljava_util_Optional_ : parseMethodDescriptor "()Ljava/util/Optional;" = some ⟨[], (some (.object "java/util/Optional"))⟩ := by decide +kernel
theorem pd___Z : parseMethodDescriptor "()Z" = some ⟨[], (some .boolean)⟩ := by decide +kernel
theorem pn_com_example_frugal_scheduler_frugalscheduler_plan_ViolationOfPlanPinLaw : plainName "com/example/frugal_scheduler/frugalscheduler/plan/ViolationOfPlanPinLaw" = true := by first | (simp [plainName, overriddenIn]; done) | decide +kernel
theorem pn_java_lang_String : plainName "java/lang/String" = true := by first | (simp [plainName, overriddenIn]; done) | decide +kernel
theorem pn_java_util_Objects : plainName "java/util/Objects" = true := by first | (simp [plainName, overriddenIn]; done) | decide +kernel
theorem pn_com_example_frugal_scheduler_frugalscheduler_plan_Violation : plainName "com/example/frugal_scheduler/frugalscheduler/plan/Violation" = true := by first | (simp [plainName, overriddenIn]; done) | decide +kernel
theorem pn_java_util_Optional : plainName "java/util/Optional" = true := by first | (simp [plainName, overriddenIn]; done) | decide +kernel

/-- a Latin-1 String that spells cs -/
def own_Str (Z : State) (h : Heap) (a : Addr) (cs : List Int32) : Prop := ∃ (t : Addr) (kb : ClassId), Exa Z h a "java/lang/String" ∧ Fld Z h a "java/lang/String" "coder" "B" (.int 0) ∧ Fld Z h a "java/lang/String" "value" "[B" (.ref t) ∧ Arv Z h t kb .byte (Int32.ofNat cs.length) ((cs.map StrChars.lo8).map Value.int) (.int 0)
theorem own_ltn {i n : Nat} (h : i < n) (hn : n < 2 ^ 31) : Int32.ofNat i < Int32.ofNat n := Int32.lt_iff_toInt_lt.mpr (by rw [Int32.toInt_ofNat_of_lt (by omega), Int32.toInt_ofNat_of_lt (by omega)]; omega)
theorem own_nltn {i n : Nat} (h : n ≤ i) (hn : i < 2 ^ 31) : ¬ Int32.ofNat i < Int32.ofNat n := fun q => by
  have := Int32.lt_iff_toInt_lt.mp q
  rw [Int32.toInt_ofNat_of_lt (by omega), Int32.toInt_ofNat_of_lt (by omega)] at this; omega
theorem own_one (i : Nat) : Int32.ofNat i + (1 : Int32) = Int32.ofNat (i + 1) := (Int32.ofNat_add i 1).symm
theorem own_onat {x : Int32} {k : Nat} (h : x.toInt = k) : x = Int32.ofNat k := Int32.toInt_inj.mp (by rw [h, Int32.toInt_ofNat_of_lt (by have := x.toInt_lt; omega)])
theorem own_natne {i n : Nat} (hi : i < 2 ^ 31) (hn : n < 2 ^ 31) (h : Int32.ofNat i = Int32.ofNat n) : i = n := by
  have := congrArg Int32.toInt h
  rw [Int32.toInt_ofNat_of_lt (by omega), Int32.toInt_ofNat_of_lt (by omega)] at this; omega
theorem own_EW {a0 : Array Value} {Z : State} (hw : ∀ d ∈ tables_1, d.before a0 Z = true) : EW Z a0 consts_1 := (EW.cons (w51 hw) (by decide) (EW.cons (w66 hw) (by decide) (EW.cons (w119 hw) (by decide) EW.nil)))
theorem own_hws {a0 : Array Value} {Z : State} (hw : ∀ d ∈ tables_1, d.before a0 Z = true) : ∀ d ∈ StrChars.Road.words, d.before a0 Z = true := fun d hd => hw d ((by decide +kernel : ∀ d ∈ StrChars.Road.words, d ∈ tables_1) d hd)
theorem own_strAtoms {a0 : Array Value} {Z : State} (hw : ∀ d ∈ tables_1, d.before a0 Z = true) : ∀ a ∈ Bundle.stringAtoms, a.before a0 Z = true := fun d hd => by
  simp only [Bundle.stringAtoms, Bundle.sN, List.mem_cons, List.not_mem_nil, or_false] at hd
  rcases hd with rfl | rfl | rfl | rfl | rfl | rfl | rfl
  · exact (w13 hw)
  · exact (w12 hw)
  · exact (w30 hw)
  · exact (w40 hw)
  · exact (w38 hw)
  · exact (w52 hw)
  · exact (w53 hw)

theorem own_nneg {n : Int32} (h : 0 ≤ n.toInt) : ¬ n < (0 : Int32) := fun q => by
  have := Int32.lt_iff_toInt_lt.mp q
  have e : (0 : Int32).toInt = 0 := by decide
  omega
theorem own_nlt {x y : Int32} (h : y.toInt ≤ x.toInt) : ¬ x < y := fun q => by
  have := Int32.lt_iff_toInt_lt.mp q; omega
theorem own_lt {x y : Int32} (h : x.toInt < y.toInt) : x < y := Int32.lt_iff_toInt_lt.mpr h
theorem own_m255 (x : Int32) : 0 ≤ (x &&& (255 : Int32)).toInt ∧ (x &&& (255 : Int32)).toInt ≤ 255 := c_and x 255 (by decide)
/-- a char below 256 is what castore lays of it -/
theorem own_narc {x : Int32} (h1 : 0 ≤ x.toInt) (h2 : x.toInt ≤ 65535) : nar .char x = x := by
  have e : (x.toUInt32.toUInt16.toUInt32.toInt32.toInt - x.toInt) % 65536 = 0 := (c_i2c x).1
  have r := (c_i2c x).2
  have : nar .char x = x.toUInt32.toUInt16.toUInt32.toInt32 := rfl
  rw [this]
  exact Int32.toInt_inj.mp (by omega)
theorem own_i2c {x : Int32} (h1 : 0 ≤ x.toInt) (h2 : x.toInt ≤ 65535) : x.toUInt32.toUInt16.toUInt32.toInt32 = x := own_narc h1 h2

theorem own_frnil {k : Nat} {L L' : List Loc} (N : Fr k L) (e : L' = []) : Fr k (L ++ L') := by subst e; rw [List.append_nil]; exact N
theorem own_up {c : Int32} (h : ¬ c < 0 ∧ ¬ (255 : Int32) < c) : ¬ c < 0 ∧ ¬ (65535 : Int32) < c := ⟨h.1, fun q => h.2 (Int32.lt_iff_toInt_lt.mpr (by have := Int32.lt_iff_toInt_lt.mp q; rw [show (65535 : Int32).toInt = 65535 by decide] at this; rw [show (255 : Int32).toInt = 255 by decide]; omega))⟩

theorem own_n8 {c : Int32} (h1 : 0 ≤ c.toInt) (h2 : c.toInt ≤ 255) : nar .char c = c := own_narc h1 (by omega)
theorem own_c8 {c : Int32} (h1 : 0 ≤ c.toInt) (h2 : c.toInt ≤ 255) : ¬ c < 0 ∧ ¬ (255 : Int32) < c := ⟨own_nneg h1, own_nlt (by show _ ≤ (255 : Int32).toInt; exact h2)⟩
def own_B (cs : List Int32) : Prop := ∀ c ∈ cs, ¬ c < 0 ∧ ¬ (255 : Int32) < c
theorem own_B.take {cs : List Int32} (h : own_B cs) (n : Nat) : own_B (cs.take n) := fun c hc => h c (List.mem_of_mem_take hc)

theorem dpick_0 : decode method_2_code 0 = .ok (.iload_n 0, 1) := by decide +kernel
theorem dpick_1 : decode method_2_code 1 = .ok (.ifCond .ne 7, 3) := by decide +kernel
theorem dpick_4 : decode method_2_code 4 = .ok (.getstatic 7, 3) := by decide +kernel
theorem dpick_7 : decode method_2_code 7 = .ok (.areturn, 1) := by decide +kernel
theorem dpick_8 : decode method_2_code 8 = .ok (.iload_n 0, 1) := by decide +kernel
theorem dpick_9 : decode method_2_code 9 = .ok (.iconst 1, 1) := by decide +kernel
theorem dpick_10 : decode method_2_code 10 = .ok (.if_icmp .ne 7, 3) := by decide +kernel
theorem dpick_13 : decode method_2_code 13 = .ok (.getstatic 13, 3) := by decide +kernel
theorem dpick_16 : decode method_2_code 16 = .ok (.areturn, 1) := by decide +kernel
theorem dpick_17 : decode method_2_code 17 = .ok (.iload_n 0, 1) := by decide +kernel
theorem dpick_18 : decode method_2_code 18 = .ok (.iconst 2, 1) := by decide +kernel
theorem dpick_19 : decode method_2_code 19 = .ok (.if_icmp .ne 7, 3) := by decide +kernel
theorem dpick_22 : decode method_2_code 22 = .ok (.getstatic 16, 3) := by decide +kernel
theorem dpick_25 : decode method_2_code 25 = .ok (.areturn, 1) := by decide +kernel
theorem dpick_26 : decode method_2_code 26 = .ok (.iload_n 0, 1) := by decide +kernel
theorem dpick_27 : decode method_2_code 27 = .ok (.iconst 3, 1) := by decide +kernel
theorem dpick_28 : decode method_2_code 28 = .ok (.if_icmp .ne 7, 3) := by decide +kernel
theorem dpick_31 : decode method_2_code 31 = .ok (.getstatic 19, 3) := by decide +kernel
theorem dpick_34 : decode method_2_code 34 = .ok (.areturn, 1) := by decide +kernel
theorem dpick_35 : decode method_2_code 35 = .ok (.iload_n 0, 1) := by decide +kernel
theorem dpick_36 : decode method_2_code 36 = .ok (.iconst 4, 1) := by decide +kernel
theorem dpick_37 : decode method_2_code 37 = .ok (.if_icmp .ne 7, 3) := by decide +kernel
theorem dpick_40 : decode method_2_code 40 = .ok (.getstatic 22, 3) := by decide +kernel
theorem dpick_43 : decode method_2_code 43 = .ok (.areturn, 1) := by decide +kernel
theorem dpick_44 : decode method_2_code 44 = .ok (.iload_n 0, 1) := by decide +kernel
theorem dpick_45 : decode method_2_code 45 = .ok (.iconst 5, 1) := by decide +kernel
theorem dpick_46 : decode method_2_code 46 = .ok (.if_icmp .ne 7, 3) := by decide +kernel
theorem dpick_49 : decode method_2_code 49 = .ok (.getstatic 25, 3) := by decide +kernel
theorem dpick_52 : decode method_2_code 52 = .ok (.areturn, 1) := by decide +kernel
theorem dpick_53 : decode method_2_code 53 = .ok (.iload_n 0, 1) := by decide +kernel
theorem dpick_54 : decode method_2_code 54 = .ok (.bipush 6, 2) := by decide +kernel
theorem dpick_56 : decode method_2_code 56 = .ok (.if_icmp .ne 7, 3) := by decide +kernel
theorem dpick_59 : decode method_2_code 59 = .ok (.getstatic 28, 3) := by decide +kernel
theorem dpick_62 : decode method_2_code 62 = .ok (.areturn, 1) := by decide +kernel
theorem dpick_63 : decode method_2_code 63 = .ok (.iload_n 0, 1) := by decide +kernel
theorem dpick_64 : decode method_2_code 64 = .ok (.bipush 7, 2) := by decide +kernel
theorem dpick_66 : decode method_2_code 66 = .ok (.if_icmp .ne 7, 3) := by decide +kernel
theorem dpick_69 : decode method_2_code 69 = .ok (.getstatic 31, 3) := by decide +kernel
theorem dpick_72 : decode method_2_code 72 = .ok (.areturn, 1) := by decide +kernel
theorem dpick_73 : decode method_2_code 73 = .ok (.iload_n 0, 1) := by decide +kernel
theorem dpick_74 : decode method_2_code 74 = .ok (.bipush 8, 2) := by decide +kernel
theorem dpick_76 : decode method_2_code 76 = .ok (.if_icmp .ne 7, 3) := by decide +kernel
theorem dpick_79 : decode method_2_code 79 = .ok (.getstatic 34, 3) := by decide +kernel
theorem dpick_82 : decode method_2_code 82 = .ok (.areturn, 1) := by decide +kernel
theorem dpick_83 : decode method_2_code 83 = .ok (.iload_n 0, 1) := by decide +kernel
theorem dpick_84 : decode method_2_code 84 = .ok (.bipush 9, 2) := by decide +kernel
theorem dpick_86 : decode method_2_code 86 = .ok (.if_icmp .ne 7, 3) := by decide +kernel
theorem dpick_89 : decode method_2_code 89 = .ok (.getstatic 37, 3) := by decide +kernel
theorem dpick_92 : decode method_2_code 92 = .ok (.areturn, 1) := by decide +kernel
theorem dpick_93 : decode method_2_code 93 = .ok (.iload_n 0, 1) := by decide +kernel
theorem dpick_94 : decode method_2_code 94 = .ok (.bipush 10, 2) := by decide +kernel
theorem dpick_96 : decode method_2_code 96 = .ok (.if_icmp .ne 7, 3) := by decide +kernel
theorem dpick_99 : decode method_2_code 99 = .ok (.getstatic 40, 3) := by decide +kernel
theorem dpick_102 : decode method_2_code 102 = .ok (.areturn, 1) := by decide +kernel
theorem dpick_103 : decode method_2_code 103 = .ok (.getstatic 43, 3) := by decide +kernel
theorem dpick_106 : decode method_2_code 106 = .ok (.areturn, 1) := by decide +kernel
set_option maxRecDepth 65536 in
set_option maxHeartbeats 40000000 in
theorem rm_pick (l : Launch) (Z : State) (a0 : Array Value) (hw : ∀ d ∈ tables_1, d.before a0 Z = true) (p1 : Int32) (o0 o1 o2 o3 o4 o5 o6 o7 o8 o9 o10 o11 : Addr) (P : Addr → Prop) (h0 : Heap) (O0 : Old Z Z.heap.size h0) (S0 : Sta Z Z.heap "com/example/frugal_scheduler/frugalscheduler/plan/Rule" "TASK_MISSING" "Lcom/example/frugal_scheduler/frugalscheduler/plan/Rule;" (.ref o0)) (S1 : Sta Z Z.heap "com/example/frugal_scheduler/frugalscheduler/plan/Rule" "TASK_DUPLICATE" "Lcom/example/frugal_scheduler/frugalscheduler/plan/Rule;" (.ref o1)) (S2 : Sta Z Z.heap "com/example/frugal_scheduler/frugalscheduler/plan/Rule" "UNKNOWN_TASK" "Lcom/example/frugal_scheduler/frugalscheduler/plan/Rule;" (.ref o2)) (S3 : Sta Z Z.heap "com/example/frugal_scheduler/frugalscheduler/plan/Rule" "UNKNOWN_VM" "Lcom/example/frugal_scheduler/frugalscheduler/plan/Rule;" (.ref o3)) (S4 : Sta Z Z.heap "com/example/frugal_scheduler/frugalscheduler/plan/Rule" "UNKNOWN_TYPE" "Lcom/example/frugal_scheduler/frugalscheduler/plan/Rule;" (.ref o4)) (S5 : Sta Z Z.heap "com/example/frugal_scheduler/frugalscheduler/plan/Rule" "BEFORE_READY" "Lcom/example/frugal_scheduler/frugalscheduler/plan/Rule;" (.ref o5)) (S6 : Sta Z Z.heap "com/example/frugal_scheduler/frugalscheduler/plan/Rule" "PRECEDENCE" "Lcom/example/frugal_scheduler/frugalscheduler/plan/Rule;" (.ref o6)) (S7 : Sta Z Z.heap "com/example/frugal_scheduler/frugalscheduler/plan/Rule" "DURATION" "Lcom/example/frugal_scheduler/frugalscheduler/plan/Rule;" (.ref o7)) (S8 : Sta Z Z.heap "com/example/frugal_scheduler/frugalscheduler/plan/Rule" "OVERLAP" "Lcom/example/frugal_scheduler/frugalscheduler/plan/Rule;" (.ref o8)) (S9 : Sta Z Z.heap "com/example/frugal_scheduler/frugalscheduler/plan/Rule" "RELEASE_EARLY" "Lcom/example/frugal_scheduler/frugalscheduler/plan/Rule;" (.ref o9)) (S10 : Sta Z Z.heap "com/example/frugal_scheduler/frugalscheduler/plan/Rule" "COST_MISMATCH" "Lcom/example/frugal_scheduler/frugalscheduler/plan/Rule;" (.ref o10)) (S11 : Sta Z Z.heap "com/example/frugal_scheduler/frugalscheduler/plan/Rule" "MAKESPAN_MISMATCH" "Lcom/example/frugal_scheduler/frugalscheduler/plan/Rule;" (.ref o11)) (P0 : P o0) (P1 : P o1) (P2 : P o2) (P3 : P o3) (P4 : P o4) (P5 : P o5) (P6 : P o6) (P7 : P o7) (P8 : P o8) (P9 : P o9) (P10 : P o10) (P11 : P o11) :
    own_Con l Z (⟨"com/example/frugal_scheduler/frugalscheduler/plan/ViolationOfPlanPinLaw", "pick", "(I)Lcom/example/frugal_scheduler/frugalscheduler/plan/Rule;"⟩ : MethodName) method_2_code 1 (some (.object "com/example/frugal_scheduler/frugalscheduler/plan/Rule")) ({ frames := 0, cells := 0, slots := 0, locals := 0 } : Room) #[(.int p1)] h0 (fun v h L => ∃ x, v = some (.ref x) ∧ Fr Z.heap.size L ∧ h = h0 ∧ P x) := by
  refine own_con (ls := #[.val (.int p1)]) (pn_com_example_frugal_scheduler_frugalscheduler_plan_ViolationOfPlanPinLaw) (fun m => by first | (simp [entryFrame, mkF, argsToLocals, Value.category]; done) | rfl) ?_
  intro p e s m below meth c s₁ hx hby hml0 hown0 hnm0 hret0 hlk hZ X0 e0
  have hml : c.maxLocals = 1 := hml0
  have hown : s.vm.findClass "com/example/frugal_scheduler/frugalscheduler/plan/ViolationOfPlanPinLaw" = some m.cls := hown0
  have hnm : meth.name = "pick" := hnm0
  have hret : meth.sig.returnType = (some (.object "com/example/frugal_scheduler/frugalscheduler/plan/Rule")) := hret0
  have F1 := Fr.nil Z.heap.size
  have F2 := Keep.refl h0 []
  refine own_step (T' := s₁) (g' := (mkF m 1 #[.val (.int p1)] [(.int p1)])) (fun _ kk => XS.iloadN X0.here hx rfl (hb hby dpick_0) rfl kk) ?_
  by_cases c3 : p1 = (0 : Int32)
  · refine own_step (T' := s₁) (g' := (mkF m 4 #[.val (.int p1)] [])) (fun _ kk => XS.ifNo X0.here hx rfl (hb hby dpick_1) rfl ((if0 _ _).trans (teq c3).2) kk) ?_
    obtain ⟨T4, X4, e4, st4⟩ := getS (host := "") X0 hx hZ hown (w5 hw) Via.refl e0 (S0.ext O0.2) (g := (mkF m 4 #[.val (.int p1)] [])) rfl (hb hby dpick_4)
    refine own_step (T' := T4) (g' := (mkF m 7 #[.val (.int p1)] [(.ref o0)])) (fun _ kk => st4 _ kk) ?_
    exact own_retA X4 hx hlk (t := (.object "com/example/frugal_scheduler/frugalscheduler/plan/Rule")) hret rfl rfl rfl (hb hby dpick_7) e4 ⟨_, rfl, F1, rfl, P0⟩ (by decide) (by decide)
  · refine own_step (T' := s₁) (g' := (mkF m 8 #[.val (.int p1)] [])) (fun _ kk => XS.ifYes X0.here hx rfl (pc0 := 1) (pc' := 8) rfl (hb hby dpick_1) rfl ((if0 _ _).trans (feq c3).2) (by decide) (by decide) kk) ?_
    refine own_step (T' := s₁) (g' := (mkF m 9 #[.val (.int p1)] [(.int p1)])) (fun _ kk => XS.iloadN X0.here hx rfl (hb hby dpick_8) rfl kk) ?_
    refine own_step (T' := s₁) (g' := (mkF m 10 #[.val (.int p1)] [(.int (1 : Int32)), (.int p1)])) (fun _ kk => XS.iconst X0.here hx rfl (hb hby dpick_9) kk) ?_
    by_cases c5 : p1 = (1 : Int32)
    · refine own_step (T' := s₁) (g' := (mkF m 13 #[.val (.int p1)] [])) (fun _ kk => XS.icmpNo X0.here hx rfl (hb hby dpick_10) rfl (teq c5).2 kk) ?_
      obtain ⟨T6, X6, e6, st6⟩ := getS (host := "") X0 hx hZ hown (w107 hw) Via.refl e0 (S1.ext O0.2) (g := (mkF m 13 #[.val (.int p1)] [])) rfl (hb hby dpick_13)
      refine own_step (T' := T6) (g' := (mkF m 16 #[.val (.int p1)] [(.ref o1)])) (fun _ kk => st6 _ kk) ?_
      exact own_retA X6 hx hlk (t := (.object "com/example/frugal_scheduler/frugalscheduler/plan/Rule")) hret rfl rfl rfl (hb hby dpick_16) e6 ⟨_, rfl, F1, rfl, P1⟩ (by decide) (by decide)
    · refine own_step (T' := s₁) (g' := (mkF m 17 #[.val (.int p1)] [])) (fun _ kk => XS.icmpYes X0.here hx rfl (pc0 := 10) (pc' := 17) rfl (hb hby dpick_10) rfl (feq c5).2 (by decide) (by decide) kk) ?_
      refine own_step (T' := s₁) (g' := (mkF m 18 #[.val (.int p1)] [(.int p1)])) (fun _ kk => XS.iloadN X0.here hx rfl (hb hby dpick_17) rfl kk) ?_
      refine own_step (T' := s₁) (g' := (mkF m 19 #[.val (.int p1)] [(.int (2 : Int32)), (.int p1)])) (fun _ kk => XS.iconst X0.here hx rfl (hb hby dpick_18) kk) ?_
      by_cases c7 : p1 = (2 : Int32)
      · refine own_step (T' := s₁) (g' := (mkF m 22 #[.val (.int p1)] [])) (fun _ kk => XS.icmpNo X0.here hx rfl (hb hby dpick_19) rfl (teq c7).2 kk) ?_
        obtain ⟨T8, X8, e8, st8⟩ := getS (host := "") X0 hx hZ hown (w126 hw) Via.refl e0 (S2.ext O0.2) (g := (mkF m 22 #[.val (.int p1)] [])) rfl (hb hby dpick_22)
        refine own_step (T' := T8) (g' := (mkF m 25 #[.val (.int p1)] [(.ref o2)])) (fun _ kk => st8 _ kk) ?_
        exact own_retA X8 hx hlk (t := (.object "com/example/frugal_scheduler/frugalscheduler/plan/Rule")) hret rfl rfl rfl (hb hby dpick_25) e8 ⟨_, rfl, F1, rfl, P2⟩ (by decide) (by decide)
      · refine own_step (T' := s₁) (g' := (mkF m 26 #[.val (.int p1)] [])) (fun _ kk => XS.icmpYes X0.here hx rfl (pc0 := 19) (pc' := 26) rfl (hb hby dpick_19) rfl (feq c7).2 (by decide) (by decide) kk) ?_
        refine own_step (T' := s₁) (g' := (mkF m 27 #[.val (.int p1)] [(.int p1)])) (fun _ kk => XS.iloadN X0.here hx rfl (hb hby dpick_26) rfl kk) ?_
        refine own_step (T' := s₁) (g' := (mkF m 28 #[.val (.int p1)] [(.int (3 : Int32)), (.int p1)])) (fun _ kk => XS.iconst X0.here hx rfl (hb hby dpick_27) kk) ?_
        by_cases c9 : p1 = (3 : Int32)
        · refine own_step (T' := s₁) (g' := (mkF m 31 #[.val (.int p1)] [])) (fun _ kk => XS.icmpNo X0.here hx rfl (hb hby dpick_28) rfl (teq c9).2 kk) ?_
          obtain ⟨T10, X10, e10, st10⟩ := getS (host := "") X0 hx hZ hown (w117 hw) Via.refl e0 (S3.ext O0.2) (g := (mkF m 31 #[.val (.int p1)] [])) rfl (hb hby dpick_31)
          refine own_step (T' := T10) (g' := (mkF m 34 #[.val (.int p1)] [(.ref o3)])) (fun _ kk => st10 _ kk) ?_
          exact own_retA X10 hx hlk (t := (.object "com/example/frugal_scheduler/frugalscheduler/plan/Rule")) hret rfl rfl rfl (hb hby dpick_34) e10 ⟨_, rfl, F1, rfl, P3⟩ (by decide) (by decide)
        · refine own_step (T' := s₁) (g' := (mkF m 35 #[.val (.int p1)] [])) (fun _ kk => XS.icmpYes X0.here hx rfl (pc0 := 28) (pc' := 35) rfl (hb hby dpick_28) rfl (feq c9).2 (by decide) (by decide) kk) ?_
          refine own_step (T' := s₁) (g' := (mkF m 36 #[.val (.int p1)] [(.int p1)])) (fun _ kk => XS.iloadN X0.here hx rfl (hb hby dpick_35) rfl kk) ?_
          refine own_step (T' := s₁) (g' := (mkF m 37 #[.val (.int p1)] [(.int (4 : Int32)), (.int p1)])) (fun _ kk => XS.iconst X0.here hx rfl (hb hby dpick_36) kk) ?_
          by_cases c11 : p1 = (4 : Int32)
          · refine own_step (T' := s₁) (g' := (mkF m 40 #[.val (.int p1)] [])) (fun _ kk => XS.icmpNo X0.here hx rfl (hb hby dpick_37) rfl (teq c11).2 kk) ?_
            obtain ⟨T12, X12, e12, st12⟩ := getS (host := "") X0 hx hZ hown (w122 hw) Via.refl e0 (S4.ext O0.2) (g := (mkF m 40 #[.val (.int p1)] [])) rfl (hb hby dpick_40)
            refine own_step (T' := T12) (g' := (mkF m 43 #[.val (.int p1)] [(.ref o4)])) (fun _ kk => st12 _ kk) ?_
            exact own_retA X12 hx hlk (t := (.object "com/example/frugal_scheduler/frugalscheduler/plan/Rule")) hret rfl rfl rfl (hb hby dpick_43) e12 ⟨_, rfl, F1, rfl, P4⟩ (by decide) (by decide)
          · refine own_step (T' := s₁) (g' := (mkF m 44 #[.val (.int p1)] [])) (fun _ kk => XS.icmpYes X0.here hx rfl (pc0 := 37) (pc' := 44) rfl (hb hby dpick_37) rfl (feq c11).2 (by decide) (by decide) kk) ?_
            refine own_step (T' := s₁) (g' := (mkF m 45 #[.val (.int p1)] [(.int p1)])) (fun _ kk => XS.iloadN X0.here hx rfl (hb hby dpick_44) rfl kk) ?_
            refine own_step (T' := s₁) (g' := (mkF m 46 #[.val (.int p1)] [(.int (5 : Int32)), (.int p1)])) (fun _ kk => XS.iconst X0.here hx rfl (hb hby dpick_45) kk) ?_
            by_cases c13 : p1 = (5 : Int32)
            · refine own_step (T' := s₁) (g' := (mkF m 49 #[.val (.int p1)] [])) (fun _ kk => XS.icmpNo X0.here hx rfl (hb hby dpick_46) rfl (teq c13).2 kk) ?_
              obtain ⟨T14, X14, e14, st14⟩ := getS (host := "") X0 hx hZ hown (w124 hw) Via.refl e0 (S5.ext O0.2) (g := (mkF m 49 #[.val (.int p1)] [])) rfl (hb hby dpick_49)
              refine own_step (T' := T14) (g' := (mkF m 52 #[.val (.int p1)] [(.ref o5)])) (fun _ kk => st14 _ kk) ?_
              exact own_retA X14 hx hlk (t := (.object "com/example/frugal_scheduler/frugalscheduler/plan/Rule")) hret rfl rfl rfl (hb hby dpick_52) e14 ⟨_, rfl, F1, rfl, P5⟩ (by decide) (by decide)
            · refine own_step (T' := s₁) (g' := (mkF m 53 #[.val (.int p1)] [])) (fun _ kk => XS.icmpYes X0.here hx rfl (pc0 := 46) (pc' := 53) rfl (hb hby dpick_46) rfl (feq c13).2 (by decide) (by decide) kk) ?_
              refine own_step (T' := s₁) (g' := (mkF m 54 #[.val (.int p1)] [(.int p1)])) (fun _ kk => XS.iloadN X0.here hx rfl (hb hby dpick_53) rfl kk) ?_
              refine own_step (T' := s₁) (g' := (mkF m 56 #[.val (.int p1)] [(.int (6 : Int32)), (.int p1)])) (fun _ kk => XS.bipush X0.here hx rfl (hb hby dpick_54) kk) ?_
              by_cases c15 : p1 = (6 : Int32)
              · refine own_step (T' := s₁) (g' := (mkF m 59 #[.val (.int p1)] [])) (fun _ kk => XS.icmpNo X0.here hx rfl (hb hby dpick_56) rfl (teq c15).2 kk) ?_
                obtain ⟨T16, X16, e16, st16⟩ := getS (host := "") X0 hx hZ hown (w113 hw) Via.refl e0 (S6.ext O0.2) (g := (mkF m 59 #[.val (.int p1)] [])) rfl (hb hby dpick_59)
                refine own_step (T' := T16) (g' := (mkF m 62 #[.val (.int p1)] [(.ref o6)])) (fun _ kk => st16 _ kk) ?_
                exact own_retA X16 hx hlk (t := (.object "com/example/frugal_scheduler/frugalscheduler/plan/Rule")) hret rfl rfl rfl (hb hby dpick_62) e16 ⟨_, rfl, F1, rfl, P6⟩ (by decide) (by decide)
              · refine own_step (T' := s₁) (g' := (mkF m 63 #[.val (.int p1)] [])) (fun _ kk => XS.icmpYes X0.here hx rfl (pc0 := 56) (pc' := 63) rfl (hb hby dpick_56) rfl (feq c15).2 (by decide) (by decide) kk) ?_
                refine own_step (T' := s₁) (g' := (mkF m 64 #[.val (.int p1)] [(.int p1)])) (fun _ kk => XS.iloadN X0.here hx rfl (hb hby dpick_63) rfl kk) ?_
                refine own_step (T' := s₁) (g' := (mkF m 66 #[.val (.int p1)] [(.int (7 : Int32)), (.int p1)])) (fun _ kk => XS.bipush X0.here hx rfl (hb hby dpick_64) kk) ?_
                by_cases c17 : p1 = (7 : Int32)
                · refine own_step (T' := s₁) (g' := (mkF m 69 #[.val (.int p1)] [])) (fun _ kk => XS.icmpNo X0.here hx rfl (hb hby dpick_66) rfl (teq c17).2 kk) ?_
                  obtain ⟨T18, X18, e18, st18⟩ := getS (host := "") X0 hx hZ hown (w115 hw) Via.refl e0 (S7.ext O0.2) (g := (mkF m 69 #[.val (.int p1)] [])) rfl (hb hby dpick_69)
                  refine own_step (T' := T18) (g' := (mkF m 72 #[.val (.int p1)] [(.ref o7)])) (fun _ kk => st18 _ kk) ?_
                  exact own_retA X18 hx hlk (t := (.object "com/example/frugal_scheduler/frugalscheduler/plan/Rule")) hret rfl rfl rfl (hb hby dpick_72) e18 ⟨_, rfl, F1, rfl, P7⟩ (by decide) (by decide)
                · refine own_step (T' := s₁) (g' := (mkF m 73 #[.val (.int p1)] [])) (fun _ kk => XS.icmpYes X0.here hx rfl (pc0 := 66) (pc' := 73) rfl (hb hby dpick_66) rfl (feq c17).2 (by decide) (by decide) kk) ?_
                  refine own_step (T' := s₁) (g' := (mkF m 74 #[.val (.int p1)] [(.int p1)])) (fun _ kk => XS.iloadN X0.here hx rfl (hb hby dpick_73) rfl kk) ?_
                  refine own_step (T' := s₁) (g' := (mkF m 76 #[.val (.int p1)] [(.int (8 : Int32)), (.int p1)])) (fun _ kk => XS.bipush X0.here hx rfl (hb hby dpick_74) kk) ?_
                  by_cases c19 : p1 = (8 : Int32)
                  · refine own_step (T' := s₁) (g' := (mkF m 79 #[.val (.int p1)] [])) (fun _ kk => XS.icmpNo X0.here hx rfl (hb hby dpick_76) rfl (teq c19).2 kk) ?_
                    obtain ⟨T20, X20, e20, st20⟩ := getS (host := "") X0 hx hZ hown (w109 hw) Via.refl e0 (S8.ext O0.2) (g := (mkF m 79 #[.val (.int p1)] [])) rfl (hb hby dpick_79)
                    refine own_step (T' := T20) (g' := (mkF m 82 #[.val (.int p1)] [(.ref o8)])) (fun _ kk => st20 _ kk) ?_
                    exact own_retA X20 hx hlk (t := (.object "com/example/frugal_scheduler/frugalscheduler/plan/Rule")) hret rfl rfl rfl (hb hby dpick_82) e20 ⟨_, rfl, F1, rfl, P8⟩ (by decide) (by decide)
                  · refine own_step (T' := s₁) (g' := (mkF m 83 #[.val (.int p1)] [])) (fun _ kk => XS.icmpYes X0.here hx rfl (pc0 := 76) (pc' := 83) rfl (hb hby dpick_76) rfl (feq c19).2 (by decide) (by decide) kk) ?_
                    refine own_step (T' := s₁) (g' := (mkF m 84 #[.val (.int p1)] [(.int p1)])) (fun _ kk => XS.iloadN X0.here hx rfl (hb hby dpick_83) rfl kk) ?_
                    refine own_step (T' := s₁) (g' := (mkF m 86 #[.val (.int p1)] [(.int (9 : Int32)), (.int p1)])) (fun _ kk => XS.bipush X0.here hx rfl (hb hby dpick_84) kk) ?_
                    by_cases c21 : p1 = (9 : Int32)
                    · refine own_step (T' := s₁) (g' := (mkF m 89 #[.val (.int p1)] [])) (fun _ kk => XS.icmpNo X0.here hx rfl (hb hby dpick_86) rfl (teq c21).2 kk) ?_
                      obtain ⟨T22, X22, e22, st22⟩ := getS (host := "") X0 hx hZ hown (w128 hw) Via.refl e0 (S9.ext O0.2) (g := (mkF m 89 #[.val (.int p1)] [])) rfl (hb hby dpick_89)
                      refine own_step (T' := T22) (g' := (mkF m 92 #[.val (.int p1)] [(.ref o9)])) (fun _ kk => st22 _ kk) ?_
                      exact own_retA X22 hx hlk (t := (.object "com/example/frugal_scheduler/frugalscheduler/plan/Rule")) hret rfl rfl rfl (hb hby dpick_92) e22 ⟨_, rfl, F1, rfl, P9⟩ (by decide) (by decide)
                    · refine own_step (T' := s₁) (g' := (mkF m 93 #[.val (.int p1)] [])) (fun _ kk => XS.icmpYes X0.here hx rfl (pc0 := 86) (pc' := 93) rfl (hb hby dpick_86) rfl (feq c21).2 (by decide) (by decide) kk) ?_
                      refine own_step (T' := s₁) (g' := (mkF m 94 #[.val (.int p1)] [(.int p1)])) (fun _ kk => XS.iloadN X0.here hx rfl (hb hby dpick_93) rfl kk) ?_
                      refine own_step (T' := s₁) (g' := (mkF m 96 #[.val (.int p1)] [(.int (10 : Int32)), (.int p1)])) (fun _ kk => XS.bipush X0.here hx rfl (hb hby dpick_94) kk) ?_
                      by_cases c23 : p1 = (10 : Int32)
                      · refine own_step (T' := s₁) (g' := (mkF m 99 #[.val (.int p1)] [])) (fun _ kk => XS.icmpNo X0.here hx rfl (hb hby dpick_96) rfl (teq c23).2 kk) ?_
                        obtain ⟨T24, X24, e24, st24⟩ := getS (host := "") X0 hx hZ hown (w120 hw) Via.refl e0 (S10.ext O0.2) (g := (mkF m 99 #[.val (.int p1)] [])) rfl (hb hby dpick_99)
                        refine own_step (T' := T24) (g' := (mkF m 102 #[.val (.int p1)] [(.ref o10)])) (fun _ kk => st24 _ kk) ?_
                        exact own_retA X24 hx hlk (t := (.object "com/example/frugal_scheduler/frugalscheduler/plan/Rule")) hret rfl rfl rfl (hb hby dpick_102) e24 ⟨_, rfl, F1, rfl, P10⟩ (by decide) (by decide)
                      · refine own_step (T' := s₁) (g' := (mkF m 103 #[.val (.int p1)] [])) (fun _ kk => XS.icmpYes X0.here hx rfl (pc0 := 96) (pc' := 103) rfl (hb hby dpick_96) rfl (feq c23).2 (by decide) (by decide) kk) ?_
                        obtain ⟨T25, X25, e25, st25⟩ := getS (host := "") X0 hx hZ hown (w111 hw) Via.refl e0 (S11.ext O0.2) (g := (mkF m 103 #[.val (.int p1)] [])) rfl (hb hby dpick_103)
                        refine own_step (T' := T25) (g' := (mkF m 106 #[.val (.int p1)] [(.ref o11)])) (fun _ kk => st25 _ kk) ?_
                        exact own_retA X25 hx hlk (t := (.object "com/example/frugal_scheduler/frugalscheduler/plan/Rule")) hret rfl rfl rfl (hb hby dpick_106) e25 ⟨_, rfl, F1, rfl, P11⟩ (by decide) (by decide)
theorem dsv_0 : decode jdk_42_method_149_code 0 = .ok (.aload_n 0, 1) := by decide +kernel
theorem dsv_1 : decode jdk_42_method_149_code 1 = .ok (.invokespecial 1, 3) := by decide +kernel
theorem dsv_4 : decode jdk_42_method_149_code 4 = .ok (.iload_n 3, 1) := by decide +kernel
theorem dsv_5 : decode jdk_42_method_149_code 5 = .ok (.ifCond .ne 22, 3) := by decide +kernel
theorem dsv_8 : decode jdk_42_method_149_code 8 = .ok (.aload_n 0, 1) := by decide +kernel
theorem dsv_9 : decode jdk_42_method_149_code 9 = .ok (.ldc 7, 2) := by decide +kernel
theorem dsv_11 : decode jdk_42_method_149_code 11 = .ok (.getfield 9, 3) := by decide +kernel
theorem dsv_14 : decode jdk_42_method_149_code 14 = .ok (.putfield 9, 3) := by decide +kernel
theorem dsv_17 : decode jdk_42_method_149_code 17 = .ok (.aload_n 0, 1) := by decide +kernel
theorem dsv_18 : decode jdk_42_method_149_code 18 = .ok (.ldc 7, 2) := by decide +kernel
theorem dsv_20 : decode jdk_42_method_149_code 20 = .ok (.getfield 15, 3) := by decide +kernel
theorem dsv_23 : decode jdk_42_method_149_code 23 = .ok (.putfield 15, 3) := by decide +kernel
theorem dsv_26 : decode jdk_42_method_149_code 26 = .ok (.return_, 1) := by decide +kernel
theorem dsv_27 : decode jdk_42_method_149_code 27 = .ok (.getstatic 38, 3) := by decide +kernel
theorem dsv_30 : decode jdk_42_method_149_code 30 = .ok (.ifCond .eq 28, 3) := by decide +kernel
theorem dsv_33 : decode jdk_42_method_149_code 33 = .ok (.aload_n 1, 1) := by decide +kernel
theorem dsv_34 : decode jdk_42_method_149_code 34 = .ok (.iload_n 2, 1) := by decide +kernel
theorem dsv_35 : decode jdk_42_method_149_code 35 = .ok (.iload_n 3, 1) := by decide +kernel
theorem dsv_36 : decode jdk_42_method_149_code 36 = .ok (.invokestatic 177, 3) := by decide +kernel
theorem dsv_39 : decode jdk_42_method_149_code 39 = .ok (.astore 5, 2) := by decide +kernel
theorem dsv_41 : decode jdk_42_method_149_code 41 = .ok (.aload_n 0, 1) := by decide +kernel
theorem dsv_42 : decode jdk_42_method_149_code 42 = .ok (.aload 5, 2) := by decide +kernel
theorem dsv_44 : decode jdk_42_method_149_code 44 = .ok (.iload_n 3, 1) := by decide +kernel
theorem dsv_45 : decode jdk_42_method_149_code 45 = .ok (.invokestatic 47, 3) := by decide +kernel
theorem dsv_48 : decode jdk_42_method_149_code 48 = .ok (.putfield 15, 3) := by decide +kernel
theorem dsv_51 : decode jdk_42_method_149_code 51 = .ok (.aload_n 0, 1) := by decide +kernel
theorem dsv_52 : decode jdk_42_method_149_code 52 = .ok (.aload 5, 2) := by decide +kernel
theorem dsv_54 : decode jdk_42_method_149_code 54 = .ok (.putfield 9, 3) := by decide +kernel
theorem dsv_57 : decode jdk_42_method_149_code 57 = .ok (.return_, 1) := by decide +kernel
theorem dsv_58 : decode jdk_42_method_149_code 58 = .ok (.aload_n 0, 1) := by decide +kernel
theorem dsv_59 : decode jdk_42_method_149_code 59 = .ok (.iconst 1, 1) := by decide +kernel
theorem dsv_60 : decode jdk_42_method_149_code 60 = .ok (.putfield 15, 3) := by decide +kernel
theorem dsv_63 : decode jdk_42_method_149_code 63 = .ok (.aload_n 0, 1) := by decide +kernel
theorem dsv_64 : decode jdk_42_method_149_code 64 = .ok (.aload_n 1, 1) := by decide +kernel
theorem dsv_65 : decode jdk_42_method_149_code 65 = .ok (.iload_n 2, 1) := by decide +kernel
theorem dsv_66 : decode jdk_42_method_149_code 66 = .ok (.iload_n 3, 1) := by decide +kernel
theorem dsv_67 : decode jdk_42_method_149_code 67 = .ok (.invokestatic 180, 3) := by decide +kernel
theorem dsv_70 : decode jdk_42_method_149_code 70 = .ok (.putfield 9, 3) := by decide +kernel
theorem dsv_73 : decode jdk_42_method_149_code 73 = .ok (.return_, 1) := by decide +kernel
set_option maxRecDepth 65536 in
set_option maxHeartbeats 40000000 in
theorem rm_sv (l : Launch) (Z : State) (a0 : Array Value) (hw : ∀ d ∈ tables_1, d.before a0 Z = true) (a1 b2 : Addr) (h0 : Heap) (O0 : Old Z Z.heap.size h0) (O1 : own_Obj Z h0 a1 "java/lang/String") (g1 : Z.heap.size ≤ a1) :
    own_ConW l Z (fun vm => CHv Z consts_1 vm h0 ∧ Safe Z consts_1 vm h0 a1) (⟨"java/lang/String", "<init>", "([CIILjava/lang/Void;)V"⟩ : MethodName) jdk_42_method_149_code 6 none ({ frames := 1, cells := 2, slots := 4, locals := 12 } : Room) #[(.ref a1), (.ref b2), (.int (0 : Int32)), (.int (0 : Int32)), .null] h0 (fun v h L => v = none ∧ Fr Z.heap.size L ∧ Keep h0 h [a1] ∧ own_Str Z h a1 []) := by
  refine own_conW (ls := #[.val (.ref a1), .val (.ref b2), .val (.int (0 : Int32)), .val (.int (0 : Int32)), .val .null, .unset]) (pn_java_lang_String) (fun m => by first | (simp [entryFrame, mkF, argsToLocals, Value.category]; done) | rfl) ?_
  intro p e s m below meth c s₁ hx hby hml0 hown0 hnm0 hret0 hlk hZ X0 e0 hS0 hJ
  have hml : c.maxLocals = 6 := hml0
  have hown : s.vm.findClass "java/lang/String" = some m.cls := hown0
  have hnm : meth.name = "<init>" := hnm0
  have hret : meth.sig.returnType = none := hret0
  have F26 := Fr.nil Z.heap.size
  have F27 := Keep.refl h0 []
  have F28 := Keep.refl h0 [a1]
  refine own_step (T' := s₁) (g' := (mkF m 1 #[.val (.ref a1), .val (.ref b2), .val (.int (0 : Int32)), .val (.int (0 : Int32)), .val .null, .unset] [(.ref a1)])) (fun _ kk => XS.aloadN X0.here hx rfl (hb hby dsv_0) rfl rfl kk) ?_
  obtain ⟨T29, X29, e29, st29⟩ := initO X0 hx hZ hown (w22 hw) (w23 hw) (w24 hw) e0 (g := (mkF m 1 #[.val (.ref a1), .val (.ref b2), .val (.int (0 : Int32)), .val (.int (0 : Int32)), .val .null, .unset] [(.ref a1)])) rfl (by rw [hml]; rfl) rfl (hb hby dsv_1) (by decide) (W := 0) (by show 2 * 0 + _ ≤ _; exact Nat.le_of_eq rfl) (by decide)
  refine own_step (T' := T29) (g' := (mkF m 4 #[.val (.ref a1), .val (.ref b2), .val (.int (0 : Int32)), .val (.int (0 : Int32)), .val .null, .unset] [])) (fun _ kk => st29 _ kk) ?_
  refine own_step (T' := T29) (g' := (mkF m 5 #[.val (.ref a1), .val (.ref b2), .val (.int (0 : Int32)), .val (.int (0 : Int32)), .val .null, .unset] [(.int (0 : Int32))])) (fun _ kk => XS.iloadN X29.here hx rfl (hb hby dsv_4) rfl kk) ?_
  refine own_step (T' := T29) (g' := (mkF m 8 #[.val (.ref a1), .val (.ref b2), .val (.int (0 : Int32)), .val (.int (0 : Int32)), .val .null, .unset] [])) (fun _ kk => XS.ifNo X29.here hx rfl (hb hby dsv_5) rfl ((if0 _ _).trans (teq rfl).2) kk) ?_
  refine own_step (T' := T29) (g' := (mkF m 9 #[.val (.ref a1), .val (.ref b2), .val (.int (0 : Int32)), .val (.int (0 : Int32)), .val .null, .unset] [(.ref a1)])) (fun _ kk => XS.aloadN X29.here hx rfl (hb hby dsv_8) rfl rfl kk) ?_
  obtain ⟨sa30, T30, h30, k130, sb30, kb30, X30, e30, E30, hS30, hk30, hZ30, ho30, Ex30, Co30, Va30, Ar30, la30, lb30, hC30, Li30, hne30, st30⟩ := ldcCH X29 hx hZ hown (w119 hw) (own_strAtoms hw) e29 hS0 (Nat.zero_le _) (own_EW hw) (by decide) hJ.1 (vs := []) (z := 0) ⟨by decide, rfl⟩ (by decide) (by decide) (g := (mkF m 9 #[.val (.ref a1), .val (.ref b2), .val (.int (0 : Int32)), .val (.int (0 : Int32)), .val .null, .unset] [(.ref a1)])) rfl (hb hby dsv_9) (n := 0) (by decide) (by decide) (by decide) (by decide)
  have ns31 := hne30 _ (CHr.safe hC30 O1.lt hJ.2)
  have F32 := O1.ext E30
  have F33 := Nat.le_trans (Nat.zero_le _) E30.1
  have F34 := O0.ext E30
  have F35 := F28.ext E30
  refine own_step (T' := T30) (g' := (mkF m 11 #[.val (.ref a1), .val (.ref b2), .val (.int (0 : Int32)), .val (.int (0 : Int32)), .val .null, .unset] [(.ref sa30), (.ref a1)])) (fun _ kk => st30 _ kk) ?_
  obtain ⟨T36, X36, e36, st36⟩ := getF X30 hx hZ30 ho30 (host := "") (Or.inl (w39 hw)) Via.refl e30 Va30 (g := (mkF m 11 #[.val (.ref a1), .val (.ref b2), .val (.int (0 : Int32)), .val (.int (0 : Int32)), .val .null, .unset] [(.ref sa30), (.ref a1)])) rfl rfl (hb hby dsv_11)
  refine own_step (T' := T36) (g' := (mkF m 14 #[.val (.ref a1), .val (.ref b2), .val (.int (0 : Int32)), .val (.int (0 : Int32)), .val .null, .unset] [(.ref sb30), (.ref a1)])) (fun _ kk => st36 _ kk) ?_
  obtain ⟨u37, Fu37⟩ := F32.fld (w12 hw) (Or.inr (w40 hw) : Laid Z a0 "java/lang/String" "java/lang/String" "value" "[B")
  obtain ⟨T37, h37, X37, e37, W37, st37⟩ := putF X36 hx hZ30 ho30 (host := "") (Or.inl (w39 hw)) Via.refl e36 Fu37 F32.1 (Or.inr ⟨(w40 hw), rfl, hnm⟩) (w12 hw) (ty := (.array .byte)) (by decide) rfl rfl (g := (mkF m 14 #[.val (.ref a1), .val (.ref b2), .val (.int (0 : Int32)), .val (.int (0 : Int32)), .val .null, .unset] [(.ref sb30), (.ref a1)])) rfl rfl (hb hby dsv_14)
  have F38 := Fr.snoc X37 F26 g1
  have F39 := F32.wr W37
  have F40 := Co30.other W37 (Or.inl (Ne.symm ns31.1))
  have F41 := Va30.other W37 (Or.inl (Ne.symm ns31.1))
  have F42 := Ar30.other W37 (Ne.symm ns31.2)
  have F43 := (Nat.le_trans hk30 (Nat.le_of_eq (Wr.size W37).symm))
  have F44 := F34.wr W37 g1
  have F45 := F35.wr W37 (Or.inl (List.mem_of_getElem? (i := 0) rfl))
  have F46 : Fld Z h37 a1 "java/lang/String" "value" "[B" (.ref sb30) := Fu37.same W37
  refine own_step (T' := T37) (g' := (mkF m 17 #[.val (.ref a1), .val (.ref b2), .val (.int (0 : Int32)), .val (.int (0 : Int32)), .val .null, .unset] [])) (fun _ kk => st37 _ kk) ?_
  refine own_step (T' := T37) (g' := (mkF m 18 #[.val (.ref a1), .val (.ref b2), .val (.int (0 : Int32)), .val (.int (0 : Int32)), .val .null, .unset] [(.ref a1)])) (fun _ kk => XS.aloadN X37.here hx rfl (hb hby dsv_17) rfl rfl kk) ?_
  refine own_step (T' := T37) (g' := (mkF m 20 #[.val (.ref a1), .val (.ref b2), .val (.int (0 : Int32)), .val (.int (0 : Int32)), .val .null, .unset] [(.ref sa30), (.ref a1)])) (fun _ kk => ldcAgain X37 hx hZ30 ho30 (w119 hw) Li30 (g := (mkF m 18 #[.val (.ref a1), .val (.ref b2), .val (.int (0 : Int32)), .val (.int (0 : Int32)), .val .null, .unset] [(.ref a1)])) rfl (hb hby dsv_18) _ kk) ?_
  obtain ⟨T47, X47, e47, st47⟩ := getF X37 hx hZ30 ho30 (host := "") (Or.inl (w37 hw)) Via.refl e37 F40 (g := (mkF m 20 #[.val (.ref a1), .val (.ref b2), .val (.int (0 : Int32)), .val (.int (0 : Int32)), .val .null, .unset] [(.ref sa30), (.ref a1)])) rfl rfl (hb hby dsv_20)
  refine own_step (T' := T47) (g' := (mkF m 23 #[.val (.ref a1), .val (.ref b2), .val (.int (0 : Int32)), .val (.int (0 : Int32)), .val .null, .unset] [(.int 0), (.ref a1)])) (fun _ kk => st47 _ kk) ?_
  obtain ⟨u48, Fu48⟩ := F39.fld (w12 hw) (Or.inr (w38 hw) : Laid Z a0 "java/lang/String" "java/lang/String" "coder" "B")
  obtain ⟨T48, h48, X48, e48, W48, st48⟩ := putF X47 hx hZ30 ho30 (host := "") (Or.inl (w37 hw)) Via.refl e47 Fu48 F39.1 (Or.inr ⟨(w38 hw), rfl, hnm⟩) (w12 hw) (ty := .byte) (by decide) rfl rfl (g := (mkF m 23 #[.val (.ref a1), .val (.ref b2), .val (.int (0 : Int32)), .val (.int (0 : Int32)), .val .null, .unset] [(.int 0), (.ref a1)])) rfl rfl (hb hby dsv_23)
  have F49 := Fr.snoc X48 F38 g1
  have F50 := F39.wr W48
  have F51 := F40.other W48 (Or.inl (Ne.symm ns31.1))
  have F52 := F41.other W48 (Or.inl (Ne.symm ns31.1))
  have F53 := F42.other W48 (Ne.symm ns31.2)
  have F54 := F46.other W48 (Or.inr (slot_ne (Or.inr (w40 hw) : Laid Z a0 "java/lang/String" "java/lang/String" "value" "[B") (Or.inr (w38 hw) : Laid Z a0 "java/lang/String" "java/lang/String" "coder" "B") (by decide) (t := (.array .byte)) (t' := .byte) (by decide) (by decide)))
  have F55 := (Nat.le_trans F43 (Nat.le_of_eq (Wr.size W48).symm))
  have F56 := F44.wr W48 g1
  have F57 := F45.wr W48 (Or.inl (List.mem_of_getElem? (i := 0) rfl))
  have F58 : Fld Z h48 a1 "java/lang/String" "coder" "B" (.int 0) := Fu48.same W48
  refine own_step (T' := T48) (g' := (mkF m 26 #[.val (.ref a1), .val (.ref b2), .val (.int (0 : Int32)), .val (.int (0 : Int32)), .val .null, .unset] [])) (fun _ kk => st48 _ kk) ?_
  exact own_retVW X48 hx hS30 F55 hlk hret (hb hby dsv_26) e48 ⟨rfl, F49, F57, _, _, F50.1, F58, F54, F53⟩ (by decide) (by decide)
theorem dsc_0 : decode jdk_42_method_3_code 0 = .ok (.aload_n 0, 1) := by decide +kernel
theorem dsc_1 : decode jdk_42_method_3_code 1 = .ok (.aload_n 1, 1) := by decide +kernel
theorem dsc_2 : decode jdk_42_method_3_code 2 = .ok (.iconst 0, 1) := by decide +kernel
theorem dsc_3 : decode jdk_42_method_3_code 3 = .ok (.aload_n 1, 1) := by decide +kernel
theorem dsc_4 : decode jdk_42_method_3_code 4 = .ok (.arraylength, 1) := by decide +kernel
theorem dsc_5 : decode jdk_42_method_3_code 5 = .ok (.aconst_null, 1) := by decide +kernel
theorem dsc_6 : decode jdk_42_method_3_code 6 = .ok (.invokespecial 27, 3) := by decide +kernel
theorem dsc_9 : decode jdk_42_method_3_code 9 = .ok (.return_, 1) := by decide +kernel
set_option maxRecDepth 65536 in
set_option maxHeartbeats 40000000 in
theorem rm_sc (l : Launch) (Z : State) (a0 : Array Value) (hw : ∀ d ∈ tables_1, d.before a0 Z = true) (a1 b2 : Addr) (kc : ClassId) (h0 : Heap) (O0 : Old Z Z.heap.size h0) (O1 : own_Obj Z h0 a1 "java/lang/String") (g1 : Z.heap.size ≤ a1) (A2 : Arv Z h0 b2 kc .char (0 : Int32) [] (.int 0)) :
    own_ConW l Z (fun vm => CHv Z consts_1 vm h0 ∧ Safe Z consts_1 vm h0 a1) (⟨"java/lang/String", "<init>", "([C)V"⟩ : MethodName) jdk_42_method_3_code 2 none ({ frames := 2, cells := 2, slots := 4, locals := 29 } : Room) #[(.ref a1), (.ref b2)] h0 (fun v h L => v = none ∧ Fr Z.heap.size L ∧ Keep h0 h [a1] ∧ own_Str Z h a1 []) := by
  refine own_conW (ls := #[.val (.ref a1), .val (.ref b2)]) (pn_java_lang_String) (fun m => by first | (simp [entryFrame, mkF, argsToLocals, Value.category]; done) | rfl) ?_
  intro p e s m below meth c s₁ hx hby hml0 hown0 hnm0 hret0 hlk hZ X0 e0 hS0 hJ
  have hml : c.maxLocals = 2 := hml0
  have hown : s.vm.findClass "java/lang/String" = some m.cls := hown0
  have hnm : meth.name = "<init>" := hnm0
  have hret : meth.sig.returnType = none := hret0
  have F59 := Fr.nil Z.heap.size
  have F60 := Keep.refl h0 []
  have F61 := Keep.refl h0 [a1]
  refine own_step (T' := s₁) (g' := (mkF m 1 #[.val (.ref a1), .val (.ref b2)] [(.ref a1)])) (fun _ kk => XS.aloadN X0.here hx rfl (hb hby dsc_0) rfl rfl kk) ?_
  refine own_step (T' := s₁) (g' := (mkF m 2 #[.val (.ref a1), .val (.ref b2)] [(.ref b2), (.ref a1)])) (fun _ kk => XS.aloadN X0.here hx rfl (hb hby dsc_1) rfl rfl kk) ?_
  refine own_step (T' := s₁) (g' := (mkF m 3 #[.val (.ref a1), .val (.ref b2)] [(.int (0 : Int32)), (.ref b2), (.ref a1)])) (fun _ kk => XS.iconst X0.here hx rfl (hb hby dsc_2) kk) ?_
  refine own_step (T' := s₁) (g' := (mkF m 4 #[.val (.ref a1), .val (.ref b2)] [(.ref b2), (.int (0 : Int32)), (.ref b2), (.ref a1)])) (fun _ kk => XS.aloadN X0.here hx rfl (hb hby dsc_3) rfl rfl kk) ?_
  refine own_step (T' := s₁) (g' := (mkF m 5 #[.val (.ref a1), .val (.ref b2)] [(.int (0 : Int32)), (.int (0 : Int32)), (.ref b2), (.ref a1)])) (fun _ kk => own_alen X0 hx hZ e0 A2 (g := (mkF m 4 #[.val (.ref a1), .val (.ref b2)] [(.ref b2), (.int (0 : Int32)), (.ref b2), (.ref a1)])) rfl rfl (hb hby dsc_4) _ kk) ?_
  refine own_step (T' := s₁) (g' := (mkF m 6 #[.val (.ref a1), .val (.ref b2)] [.null, (.int (0 : Int32)), (.int (0 : Int32)), (.ref b2), (.ref a1)])) (fun _ kk => XS.aconstNull X0.here hx rfl (hb hby dsc_5) kk) ?_
  obtain ⟨T62, L62, _, h62, X62, e62, hS62, hZ62, ho62, ⟨rfl, Nq, Kq, Sq⟩, st62⟩ := own_callCW X0 hx hZ hown hS0 (Nat.zero_le _) rfl (w18 hw) (w19 hw) (w21 hw) (w13 hw) (by decide) (a := a1) (g := (mkF m 6 #[.val (.ref a1), .val (.ref b2)] [.null, (.int (0 : Int32)), (.int (0 : Int32)), (.ref b2), (.ref a1)])) rfl (by rw [hml]; rfl) (argsL := [(.ref b2), (.int (0 : Int32)), (.int (0 : Int32)), .null]) (rest := []) (rm_sv l Z a0 hw a1 b2 _ O0 O1 g1) (fun m meth c A Y => ⟨(CHv.at Y hZ (own_EW hw) hJ.1).1, (CHv.at Y hZ (own_EW hw) hJ.1).safe O1.lt hJ.2⟩) e0 pd___CIILjava_lang_Void__V rfl rfl (W := 0) (by show 2 * 0 + _ ≤ _; exact Nat.le_of_eq rfl) (hb hby dsc_6) (by decide) (by decide) (by decide) (by decide)
  have F63 := Fr.app F59 Nq
  have F64 := Nat.le_trans (Nat.zero_le _) Kq.1
  have F65 := O0.keep Kq (allS g1 all0)
  have F66 := F61.trans Kq (allS (Or.inl (List.mem_of_getElem? (i := 0) rfl)) all0)
  refine own_step (T' := T62) (g' := (mkF m 9 #[.val (.ref a1), .val (.ref b2)] [])) (fun _ kk => st62 _ kk) ?_
  exact own_retVW X62 hx hS62 (Nat.le_refl _) hlk hret (hb hby dsc_9) e62 ⟨rfl, F63, F66, Sq⟩ (by decide) (by decide)
theorem dtext_0 : decode method_3_code 0 = .ok (.iload_n 0, 1) := by decide +kernel
theorem dtext_1 : decode method_3_code 1 = .ok (.ifCond .ne 14, 3) := by decide +kernel
theorem dtext_4 : decode method_3_code 4 = .ok (.new 46, 3) := by decide +kernel
theorem dtext_7 : decode method_3_code 7 = .ok (.dup, 1) := by decide +kernel
theorem dtext_8 : decode method_3_code 8 = .ok (.iconst 0, 1) := by decide +kernel
theorem dtext_9 : decode method_3_code 9 = .ok (.newarray .char, 2) := by decide +kernel
theorem dtext_11 : decode method_3_code 11 = .ok (.invokespecial 48, 3) := by decide +kernel
theorem dtext_14 : decode method_3_code 14 = .ok (.areturn, 1) := by decide +kernel
theorem dtext_15 : decode method_3_code 15 = .ok (.iload_n 0, 1) := by decide +kernel
theorem dtext_16 : decode method_3_code 16 = .ok (.iconst 1, 1) := by decide +kernel
theorem dtext_17 : decode method_3_code 17 = .ok (.if_icmp .ne 18, 3) := by decide +kernel
theorem dtext_20 : decode method_3_code 20 = .ok (.new 46, 3) := by decide +kernel
theorem dtext_23 : decode method_3_code 23 = .ok (.dup, 1) := by decide +kernel
theorem dtext_24 : decode method_3_code 24 = .ok (.iconst 1, 1) := by decide +kernel
theorem dtext_25 : decode method_3_code 25 = .ok (.newarray .char, 2) := by decide +kernel
theorem dtext_27 : decode method_3_code 27 = .ok (.dup, 1) := by decide +kernel
theorem dtext_28 : decode method_3_code 28 = .ok (.iconst 0, 1) := by decide +kernel
theorem dtext_29 : decode method_3_code 29 = .ok (.iload_n 1, 1) := by decide +kernel
theorem dtext_30 : decode method_3_code 30 = .ok (.castore, 1) := by decide +kernel
theorem dtext_31 : decode method_3_code 31 = .ok (.invokespecial 48, 3) := by decide +kernel
theorem dtext_34 : decode method_3_code 34 = .ok (.areturn, 1) := by decide +kernel
theorem dtext_35 : decode method_3_code 35 = .ok (.iload_n 0, 1) := by decide +kernel
theorem dtext_36 : decode method_3_code 36 = .ok (.iconst 2, 1) := by decide +kernel
theorem dtext_37 : decode method_3_code 37 = .ok (.if_icmp .ne 22, 3) := by decide +kernel
theorem dtext_40 : decode method_3_code 40 = .ok (.new 46, 3) := by decide +kernel
theorem dtext_43 : decode method_3_code 43 = .ok (.dup, 1) := by decide +kernel
theorem dtext_44 : decode method_3_code 44 = .ok (.iconst 2, 1) := by decide +kernel
theorem dtext_45 : decode method_3_code 45 = .ok (.newarray .char, 2) := by decide +kernel
theorem dtext_47 : decode method_3_code 47 = .ok (.dup, 1) := by decide +kernel
theorem dtext_48 : decode method_3_code 48 = .ok (.iconst 0, 1) := by decide +kernel
theorem dtext_49 : decode method_3_code 49 = .ok (.iload_n 1, 1) := by decide +kernel
theorem dtext_50 : decode method_3_code 50 = .ok (.castore, 1) := by decide +kernel
theorem dtext_51 : decode method_3_code 51 = .ok (.dup, 1) := by decide +kernel
theorem dtext_52 : decode method_3_code 52 = .ok (.iconst 1, 1) := by decide +kernel
theorem dtext_53 : decode method_3_code 53 = .ok (.iload_n 2, 1) := by decide +kernel
theorem dtext_54 : decode method_3_code 54 = .ok (.castore, 1) := by decide +kernel
theorem dtext_55 : decode method_3_code 55 = .ok (.invokespecial 48, 3) := by decide +kernel
theorem dtext_58 : decode method_3_code 58 = .ok (.areturn, 1) := by decide +kernel
theorem dtext_59 : decode method_3_code 59 = .ok (.new 46, 3) := by decide +kernel
theorem dtext_62 : decode method_3_code 62 = .ok (.dup, 1) := by decide +kernel
theorem dtext_63 : decode method_3_code 63 = .ok (.iconst 3, 1) := by decide +kernel
theorem dtext_64 : decode method_3_code 64 = .ok (.newarray .char, 2) := by decide +kernel
theorem dtext_66 : decode method_3_code 66 = .ok (.dup, 1) := by decide +kernel
theorem dtext_67 : decode method_3_code 67 = .ok (.iconst 0, 1) := by decide +kernel
theorem dtext_68 : decode method_3_code 68 = .ok (.iload_n 1, 1) := by decide +kernel
theorem dtext_69 : decode method_3_code 69 = .ok (.castore, 1) := by decide +kernel
theorem dtext_70 : decode method_3_code 70 = .ok (.dup, 1) := by decide +kernel
theorem dtext_71 : decode method_3_code 71 = .ok (.iconst 1, 1) := by decide +kernel
theorem dtext_72 : decode method_3_code 72 = .ok (.iload_n 2, 1) := by decide +kernel
theorem dtext_73 : decode method_3_code 73 = .ok (.castore, 1) := by decide +kernel
theorem dtext_74 : decode method_3_code 74 = .ok (.dup, 1) := by decide +kernel
theorem dtext_75 : decode method_3_code 75 = .ok (.iconst 2, 1) := by decide +kernel
theorem dtext_76 : decode method_3_code 76 = .ok (.iload_n 3, 1) := by decide +kernel
theorem dtext_77 : decode method_3_code 77 = .ok (.castore, 1) := by decide +kernel
theorem dtext_78 : decode method_3_code 78 = .ok (.invokespecial 48, 3) := by decide +kernel
theorem dtext_81 : decode method_3_code 81 = .ok (.areturn, 1) := by decide +kernel
set_option maxRecDepth 65536 in
set_option maxHeartbeats 40000000 in
theorem rm_text (l : Launch) (Z : State) (a0 : Array Value) (hw : ∀ d ∈ tables_1, d.before a0 Z = true) (p0 c0 c1 c2 zc : Int32) (h0 : Heap) (O0 : Old Z Z.heap.size h0) (SC : Sta Z Z.heap "java/lang/String" "COMPACT_STRINGS" "Z" (.int zc)) (hzc : ¬ zc = (0 : Int32)) (b0 : 0 ≤ c0.toInt ∧ c0.toInt ≤ 255) (b1 : 0 ≤ c1.toInt ∧ c1.toInt ≤ 255) (b2 : 0 ≤ c2.toInt ∧ c2.toInt ≤ 255) (hB : own_B [c0, c1, c2]) :
    own_ConW l Z (fun vm => CHv Z consts_1 vm h0) (⟨"com/example/frugal_scheduler/frugalscheduler/plan/ViolationOfPlanPinLaw", "text", "(ICCC)Ljava/lang/String;"⟩ : MethodName) method_3_code 4 (some (.object "java/lang/String")) ({ frames := 4, cells := 4, slots := 10, locals := 66 } : Room) #[(.int p0), (.int c0), (.int c1), (.int c2)] h0 (fun v h L => ∃ a, v = some (.ref a) ∧ Fr Z.heap.size L ∧ Keep h0 h [] ∧ Exa Z h a "java/lang/String") := by
  refine own_conW (ls := #[.val (.int p0), .val (.int c0), .val (.int c1), .val (.int c2)]) (pn_com_example_frugal_scheduler_frugalscheduler_plan_ViolationOfPlanPinLaw) (fun m => by first | (simp [entryFrame, mkF, argsToLocals, Value.category]; done) | rfl) ?_
  intro p e s m below meth c s₁ hx hby hml0 hown0 hnm0 hret0 hlk hZ X0 e0 hS0 hJ
  have hml : c.maxLocals = 4 := hml0
  have hown : s.vm.findClass "com/example/frugal_scheduler/frugalscheduler/plan/ViolationOfPlanPinLaw" = some m.cls := hown0
  have hnm : meth.name = "text" := hnm0
  have hret : meth.sig.returnType = (some (.object "java/lang/String")) := hret0
  have F67 := Fr.nil Z.heap.size
  have F68 := Keep.refl h0 []
  refine own_step (T' := s₁) (g' := (mkF m 1 #[.val (.int p0), .val (.int c0), .val (.int c1), .val (.int c2)] [(.int p0)])) (fun _ kk => XS.iloadN X0.here hx rfl (hb hby dtext_0) rfl kk) ?_
  by_cases c69 : p0 = (0 : Int32)
  · refine own_step (T' := s₁) (g' := (mkF m 4 #[.val (.int p0), .val (.int c0), .val (.int c1), .val (.int c2)] [])) (fun _ kk => XS.ifNo X0.here hx rfl (hb hby dtext_1) rfl ((if0 _ _).trans (teq c69).2) kk) ?_
    obtain ⟨T71, h71, X71, e71, E71, A71, D71, U71, st71⟩ := newO X0 hx hZ hown (w11 hw) (w12 hw) (w13 hw) e0 (g := (mkF m 4 #[.val (.int p0), .val (.int c0), .val (.int c1), .val (.int c2)] [])) rfl (hb hby dtext_4) (by decide) (by decide)
    obtain ⟨a70, g71⟩ : ∃ z, z = h0.size := ⟨_, rfl⟩
    rw [← g71] at A71 D71 U71 st71
    have ge72 : Z.heap.size ≤ a70 := by rw [g71]; exact O0.2.1
    have ng73 : h0.size ≤ a70 := by rw [g71]; exact F68.1
    have F74 := CHv.ext E71 hJ
    have F75 := Nat.le_trans (Nat.zero_le _) E71.1
    have F76 := O0.ext E71
    have F77 := F68.ext E71
    have F78 := Safe.ext E71 hJ (Safe.new (Nat.le_of_eq g71.symm))
    have F79 : own_Obj Z h71 a70 "java/lang/String" := own_Obj.new A71 U71
    refine own_step (T' := T71) (g' := (mkF m 7 #[.val (.int p0), .val (.int c0), .val (.int c1), .val (.int c2)] [(.ref a70)])) (fun _ kk => st71 _ kk) ?_
    refine own_step (T' := T71) (g' := (mkF m 8 #[.val (.int p0), .val (.int c0), .val (.int c1), .val (.int c2)] [(.ref a70), (.ref a70)])) (fun _ kk => XS.dup X71.here hx rfl (hb hby dtext_7) rfl rfl kk) ?_
    refine own_step (T' := T71) (g' := (mkF m 9 #[.val (.int p0), .val (.int c0), .val (.int c1), .val (.int c2)] [(.int (0 : Int32)), (.ref a70), (.ref a70)])) (fun _ kk => XS.iconst X71.here hx rfl (hb hby dtext_8) kk) ?_
    obtain ⟨T81, h81, cA81, X81, e81, E81, A81, st81⟩ := newP X71 hx hZ (aty := .char) (w14 hw) e71 (g := (mkF m 9 #[.val (.int p0), .val (.int c0), .val (.int c1), .val (.int c2)] [(.int (0 : Int32)), (.ref a70), (.ref a70)])) rfl (hb hby dtext_9) rfl (by decide) (cap := 0) (by decide) (by decide) (by decide) (by decide)
    obtain ⟨a80, g81⟩ : ∃ z, z = h71.size := ⟨_, rfl⟩
    rw [← g81] at A81 st81
    have ne82 : a70 ≠ a80 := Nat.ne_of_lt (by rw [g81]; exact F79.lt)
    have ge83 : Z.heap.size ≤ a80 := by rw [g81]; exact F76.2.1
    have ng84 : h0.size ≤ a80 := by rw [g81]; exact F77.1
    have F85 := Safe.ext E81 F74 F78
    have F86 := F79.ext E81
    have F87 := CHv.ext E81 F74
    have F88 := Nat.le_trans F75 E81.1
    have F89 := F76.ext E81
    have F90 := F77.ext E81
    have F91 := Safe.ext E81 F74 (Safe.new (Nat.le_of_eq g81.symm))
    have F92 : Arv Z h81 a80 cA81 .char (0 : Int32) [] (.int 0) := Arv.new A81 (by decide)
    refine own_step (T' := T81) (g' := (mkF m 11 #[.val (.int p0), .val (.int c0), .val (.int c1), .val (.int c2)] [(.ref a80), (.ref a70), (.ref a70)])) (fun _ kk => st81 _ kk) ?_
    obtain ⟨T93, L93, _, h93, X93, e93, hS93, hZ93, ho93, ⟨rfl, Nqa70, Kqa70, Sqa70⟩, st93⟩ := own_callCW X81 hx hZ hown hS0 F88 rfl (w15 hw) (w16 hw) (w17 hw) (w13 hw) (by decide) (a := a70) (g := (mkF m 11 #[.val (.int p0), .val (.int c0), .val (.int c1), .val (.int c2)] [(.ref a80), (.ref a70), (.ref a70)])) rfl (by rw [hml]; rfl) (argsL := [(.ref a80)]) (rest := [(.ref a70)]) (rm_sc l Z a0 hw a70 a80 cA81 _ F89 F86 ge72 F92) (fun m meth c A Y => ⟨(CHv.at Y hZ (own_EW hw) F87).1, (CHv.at Y hZ (own_EW hw) F87).safe F86.lt F85⟩) e81 pd___C_V rfl rfl (W := 1) (by show 2 * 0 + _ ≤ _; exact Nat.le_of_eq rfl) (hb hby dtext_11) (by decide) (by decide) (by decide) (by decide)
    have F94 := Fr.app F67 Nqa70
    have F95 := F86.keep Kqa70
    have F96 := F92.keep Kqa70 (ninS (Ne.symm ne82) nin0)
    have F97 := Nat.le_trans F88 Kqa70.1
    have F98 := F89.keep Kqa70 (allS ge72 all0)
    have F99 := F90.trans Kqa70 (allS (Or.inr ng73) all0)
    refine own_step (T' := T93) (g' := (mkF m 14 #[.val (.int p0), .val (.int c0), .val (.int c1), .val (.int c2)] [(.ref a70)])) (fun _ kk => st93 _ kk) ?_
    obtain ⟨_, _, Es, -⟩ := Sqa70
    exact own_retAW X93 hx hS93 (Nat.le_refl _) hlk (t := (.object "java/lang/String")) hret rfl rfl rfl (hb hby dtext_14) e93 ⟨_, rfl, F94, F99, Es⟩ (by decide) (by decide)
  · refine own_step (T' := s₁) (g' := (mkF m 15 #[.val (.int p0), .val (.int c0), .val (.int c1), .val (.int c2)] [])) (fun _ kk => XS.ifYes X0.here hx rfl (pc0 := 1) (pc' := 15) rfl (hb hby dtext_1) rfl ((if0 _ _).trans (feq c69).2) (by decide) (by decide) kk) ?_
    refine own_step (T' := s₁) (g' := (mkF m 16 #[.val (.int p0), .val (.int c0), .val (.int c1), .val (.int c2)] [(.int p0)])) (fun _ kk => XS.iloadN X0.here hx rfl (hb hby dtext_15) rfl kk) ?_
    refine own_step (T' := s₁) (g' := (mkF m 17 #[.val (.int p0), .val (.int c0), .val (.int c1), .val (.int c2)] [(.int (1 : Int32)), (.int p0)])) (fun _ kk => XS.iconst X0.here hx rfl (hb hby dtext_16) kk) ?_
    by_cases c100 : p0 = (1 : Int32)
    · refine own_step (T' := s₁) (g' := (mkF m 20 #[.val (.int p0), .val (.int c0), .val (.int c1), .val (.int c2)] [])) (fun _ kk => XS.icmpNo X0.here hx rfl (hb hby dtext_17) rfl (teq c100).2 kk) ?_
      obtain ⟨T102, h102, X102, e102, E102, A102, D102, U102, st102⟩ := newO X0 hx hZ hown (w11 hw) (w12 hw) (w13 hw) e0 (g := (mkF m 20 #[.val (.int p0), .val (.int c0), .val (.int c1), .val (.int c2)] [])) rfl (hb hby dtext_20) (by decide) (by decide)
      obtain ⟨a101, g102⟩ : ∃ z, z = h0.size := ⟨_, rfl⟩
      rw [← g102] at A102 D102 U102 st102
      have ge103 : Z.heap.size ≤ a101 := by rw [g102]; exact O0.2.1
      have ng104 : h0.size ≤ a101 := by rw [g102]; exact F68.1
      have F105 := CHv.ext E102 hJ
      have F106 := Nat.le_trans (Nat.zero_le _) E102.1
      have F107 := O0.ext E102
      have F108 := F68.ext E102
      have F109 := Safe.ext E102 hJ (Safe.new (Nat.le_of_eq g102.symm))
      have F110 : own_Obj Z h102 a101 "java/lang/String" := own_Obj.new A102 U102
      refine own_step (T' := T102) (g' := (mkF m 23 #[.val (.int p0), .val (.int c0), .val (.int c1), .val (.int c2)] [(.ref a101)])) (fun _ kk => st102 _ kk) ?_
      refine own_step (T' := T102) (g' := (mkF m 24 #[.val (.int p0), .val (.int c0), .val (.int c1), .val (.int c2)] [(.ref a101), (.ref a101)])) (fun _ kk => XS.dup X102.here hx rfl (hb hby dtext_23) rfl rfl kk) ?_
      refine own_step (T' := T102) (g' := (mkF m 25 #[.val (.int p0), .val (.int c0), .val (.int c1), .val (.int c2)] [(.int (1 : Int32)), (.ref a101), (.ref a101)])) (fun _ kk => XS.iconst X102.here hx rfl (hb hby dtext_24) kk) ?_
      obtain ⟨T112, h112, cA112, X112, e112, E112, A112, st112⟩ := newP X102 hx hZ (aty := .char) (w14 hw) e102 (g := (mkF m 25 #[.val (.int p0), .val (.int c0), .val (.int c1), .val (.int c2)] [(.int (1 : Int32)), (.ref a101), (.ref a101)])) rfl (hb hby dtext_25) rfl (by decide) (cap := 1) (by decide) (by decide) (by decide) (by decide)
      obtain ⟨a111, g112⟩ : ∃ z, z = h102.size := ⟨_, rfl⟩
      rw [← g112] at A112 st112
      have ne113 : a101 ≠ a111 := Nat.ne_of_lt (by rw [g112]; exact F110.lt)
      have ge114 : Z.heap.size ≤ a111 := by rw [g112]; exact F107.2.1
      have ng115 : h0.size ≤ a111 := by rw [g112]; exact F108.1
      have F116 := Safe.ext E112 F105 F109
      have F117 := F110.ext E112
      have F118 := CHv.ext E112 F105
      have F119 := Nat.le_trans F106 E112.1
      have F120 := F107.ext E112
      have F121 := F108.ext E112
      have F122 := Safe.ext E112 F105 (Safe.new (Nat.le_of_eq g112.symm))
      have F123 : Arv Z h112 a111 cA112 .char (1 : Int32) [] (.int 0) := Arv.new A112 (by decide)
      refine own_step (T' := T112) (g' := (mkF m 27 #[.val (.int p0), .val (.int c0), .val (.int c1), .val (.int c2)] [(.ref a111), (.ref a101), (.ref a101)])) (fun _ kk => st112 _ kk) ?_
      have F124 : Arv Z h112 a111 cA112 .char (1 : Int32) [(.int 0)] (.int 0) := Arv.pad F123 (pad_rep [] (.int 0) 1)
      refine own_step (T' := T112) (g' := (mkF m 28 #[.val (.int p0), .val (.int c0), .val (.int c1), .val (.int c2)] [(.ref a111), (.ref a111), (.ref a101), (.ref a101)])) (fun _ kk => XS.dup X112.here hx rfl (hb hby dtext_27) rfl rfl kk) ?_
      refine own_step (T' := T112) (g' := (mkF m 29 #[.val (.int p0), .val (.int c0), .val (.int c1), .val (.int c2)] [(.int (0 : Int32)), (.ref a111), (.ref a111), (.ref a101), (.ref a101)])) (fun _ kk => XS.iconst X112.here hx rfl (hb hby dtext_28) kk) ?_
      refine own_step (T' := T112) (g' := (mkF m 30 #[.val (.int p0), .val (.int c0), .val (.int c1), .val (.int c2)] [(.int c0), (.int (0 : Int32)), (.ref a111), (.ref a111), (.ref a101), (.ref a101)])) (fun _ kk => XS.iloadN X112.here hx rfl (hb hby dtext_29) rfl kk) ?_
      obtain ⟨Ac125, Ar125, q125, Sz125, Nn125, Hs125, Gs125⟩ := F124
      obtain ⟨T125, h125, X125, e125, W125, st125⟩ := stC X112 hx hZ e112 Ar125 (j := (0 : Int32)) (x := c0) (inb_of Sz125 ⟨by decide, by decide⟩) (g := (mkF m 30 #[.val (.int p0), .val (.int c0), .val (.int c1), .val (.int c2)] [(.int c0), (.int (0 : Int32)), (.ref a111), (.ref a111), (.ref a101), (.ref a101)])) rfl rfl (hb hby dtext_30)
      have F126 := Fr.snoc X125 F67 ge114
      have F127 := Safe.wr W125 F122 F118 F116
      have F128 := F117.wr W125
      have F129 := Safe.wr W125 F122 F118 F122
      have F130 := CHv.wr W125 F122 F118
      have F131 := (Nat.le_trans F119 (Nat.le_of_eq (Wr.size W125).symm))
      have F132 := F120.wr W125 ge114
      have F133 := F121.wr W125 (Or.inr ng115)
      have F134 : Arv Z h125 a111 cA112 .char (1 : Int32) [(.int c0)] (.int 0) := by
        have q := Arv.set Ar125 q125 Sz125 Nn125 Hs125 Gs125 (fits_nar_char _) W125 0 rfl (Nat.le_of_ble_eq_true rfl)
        rw [own_n8 b0.1 b0.2] at q
        exact q
      refine own_step (T' := T125) (g' := (mkF m 31 #[.val (.int p0), .val (.int c0), .val (.int c1), .val (.int c2)] [(.ref a111), (.ref a101), (.ref a101)])) (fun _ kk => st125 _ kk) ?_
      obtain ⟨u135, Fu135⟩ := F128.fld (w12 hw) (Or.inr (w40 hw) : Laid Z a0 "java/lang/String" "java/lang/String" "value" "[B")
      obtain ⟨y135, Fy135⟩ := F128.fld (w12 hw) (Or.inr (w38 hw) : Laid Z a0 "java/lang/String" "java/lang/String" "coder" "B")
      obtain ⟨T135, L135, _, h135, X135, e135, ⟨rfl, Nq135, Kq135, Eq135, Cq135, sb135, kb135, ga135, gb135, nb135, Vq135, Aq135⟩, st135⟩ := own_bcallC X125 hx hZ hown rfl (w15 hw) (w16 hw) (w17 hw) (by decide) (a := a101) (g := (mkF m 31 #[.val (.int p0), .val (.int c0), .val (.int c1), .val (.int c2)] [(.ref a111), (.ref a101), (.ref a101)])) rfl (by rw [hml]; rfl) (argsL := [.ref a111]) (rest := [(.ref a101)]) (StrChars.Road.backV (W := 1) hZ (own_hws hw) (kI := 4) (w12 hw) (cs := [c0]) (n := 1) (n0 := Z.heap.size) ge103 (Nat.le_trans F132.2.1 (Nat.le_refl _)) F128.1 Fu135 Fy135 F134 (SC.ext F132.2) hzc rfl rfl (by decide) (by decide) (hB.take 1) rfl (by decide) (by decide)) e125 pd___C_V rfl rfl (by show 2 * 0 + _ ≤ _; exact Nat.le_of_eq rfl) (hb hby dtext_31) (by decide) (by decide)
      have F136 := Fr.app F126 Nq135
      have F137 := Safe.keep Kq135 (allS F127 all0) F130 F127
      have F138 := F128.keep Kq135
      have F139 := Safe.keep Kq135 (allS F127 all0) F130 F129
      have F140 := F134.keep Kq135 (ninS (Ne.symm ne113) nin0)
      have F141 := CHv.keep Kq135 (allS F127 all0) F130
      have F142 := Nat.le_trans F131 Kq135.1
      have F143 := F132.keep Kq135 (allS ge103 all0)
      have F144 := F133.trans Kq135 (allS (Or.inr ng104) all0)
      refine own_step (T' := T135) (g' := (mkF m 34 #[.val (.int p0), .val (.int c0), .val (.int c1), .val (.int c2)] [(.ref a101)])) (fun _ kk => st135 _ kk) ?_
      exact own_retAW X135 hx hS0 F142 hlk (t := (.object "java/lang/String")) hret rfl rfl rfl (hb hby dtext_34) e135 ⟨_, rfl, F136, F144, F138.1⟩ (by decide) (by decide)
    · refine own_step (T' := s₁) (g' := (mkF m 35 #[.val (.int p0), .val (.int c0), .val (.int c1), .val (.int c2)] [])) (fun _ kk => XS.icmpYes X0.here hx rfl (pc0 := 17) (pc' := 35) rfl (hb hby dtext_17) rfl (feq c100).2 (by decide) (by decide) kk) ?_
      refine own_step (T' := s₁) (g' := (mkF m 36 #[.val (.int p0), .val (.int c0), .val (.int c1), .val (.int c2)] [(.int p0)])) (fun _ kk => XS.iloadN X0.here hx rfl (hb hby dtext_35) rfl kk) ?_
      refine own_step (T' := s₁) (g' := (mkF m 37 #[.val (.int p0), .val (.int c0), .val (.int c1), .val (.int c2)] [(.int (2 : Int32)), (.int p0)])) (fun _ kk => XS.iconst X0.here hx rfl (hb hby dtext_36) kk) ?_
      by_cases c145 : p0 = (2 : Int32)
      · refine own_step (T' := s₁) (g' := (mkF m 40 #[.val (.int p0), .val (.int c0), .val (.int c1), .val (.int c2)] [])) (fun _ kk => XS.icmpNo X0.here hx rfl (hb hby dtext_37) rfl (teq c145).2 kk) ?_
        obtain ⟨T147, h147, X147, e147, E147, A147, D147, U147, st147⟩ := newO X0 hx hZ hown (w11 hw) (w12 hw) (w13 hw) e0 (g := (mkF m 40 #[.val (.int p0), .val (.int c0), .val (.int c1), .val (.int c2)] [])) rfl (hb hby dtext_40) (by decide) (by decide)
        obtain ⟨a146, g147⟩ : ∃ z, z = h0.size := ⟨_, rfl⟩
        rw [← g147] at A147 D147 U147 st147
        have ge148 : Z.heap.size ≤ a146 := by rw [g147]; exact O0.2.1
        have ng149 : h0.size ≤ a146 := by rw [g147]; exact F68.1
        have F150 := CHv.ext E147 hJ
        have F151 := Nat.le_trans (Nat.zero_le _) E147.1
        have F152 := O0.ext E147
        have F153 := F68.ext E147
        have F154 := Safe.ext E147 hJ (Safe.new (Nat.le_of_eq g147.symm))
        have F155 : own_Obj Z h147 a146 "java/lang/String" := own_Obj.new A147 U147
        refine own_step (T' := T147) (g' := (mkF m 43 #[.val (.int p0), .val (.int c0), .val (.int c1), .val (.int c2)] [(.ref a146)])) (fun _ kk => st147 _ kk) ?_
        refine own_step (T' := T147) (g' := (mkF m 44 #[.val (.int p0), .val (.int c0), .val (.int c1), .val (.int c2)] [(.ref a146), (.ref a146)])) (fun _ kk => XS.dup X147.here hx rfl (hb hby dtext_43) rfl rfl kk) ?_
        refine own_step (T' := T147) (g' := (mkF m 45 #[.val (.int p0), .val (.int c0), .val (.int c1), .val (.int c2)] [(.int (2 : Int32)), (.ref a146), (.ref a146)])) (fun _ kk => XS.iconst X147.here hx rfl (hb hby dtext_44) kk) ?_
        obtain ⟨T157, h157, cA157, X157, e157, E157, A157, st157⟩ := newP X147 hx hZ (aty := .char) (w14 hw) e147 (g := (mkF m 45 #[.val (.int p0), .val (.int c0), .val (.int c1), .val (.int c2)] [(.int (2 : Int32)), (.ref a146), (.ref a146)])) rfl (hb hby dtext_45) rfl (by decide) (cap := 2) (by decide) (by decide) (by decide) (by decide)
        obtain ⟨a156, g157⟩ : ∃ z, z = h147.size := ⟨_, rfl⟩
        rw [← g157] at A157 st157
        have ne158 : a146 ≠ a156 := Nat.ne_of_lt (by rw [g157]; exact F155.lt)
        have ge159 : Z.heap.size ≤ a156 := by rw [g157]; exact F152.2.1
        have ng160 : h0.size ≤ a156 := by rw [g157]; exact F153.1
        have F161 := Safe.ext E157 F150 F154
        have F162 := F155.ext E157
        have F163 := CHv.ext E157 F150
        have F164 := Nat.le_trans F151 E157.1
        have F165 := F152.ext E157
        have F166 := F153.ext E157
        have F167 := Safe.ext E157 F150 (Safe.new (Nat.le_of_eq g157.symm))
        have F168 : Arv Z h157 a156 cA157 .char (2 : Int32) [] (.int 0) := Arv.new A157 (by decide)
        refine own_step (T' := T157) (g' := (mkF m 47 #[.val (.int p0), .val (.int c0), .val (.int c1), .val (.int c2)] [(.ref a156), (.ref a146), (.ref a146)])) (fun _ kk => st157 _ kk) ?_
        have F169 : Arv Z h157 a156 cA157 .char (2 : Int32) [(.int 0), (.int 0)] (.int 0) := Arv.pad F168 (pad_rep [] (.int 0) 2)
        refine own_step (T' := T157) (g' := (mkF m 48 #[.val (.int p0), .val (.int c0), .val (.int c1), .val (.int c2)] [(.ref a156), (.ref a156), (.ref a146), (.ref a146)])) (fun _ kk => XS.dup X157.here hx rfl (hb hby dtext_47) rfl rfl kk) ?_
        refine own_step (T' := T157) (g' := (mkF m 49 #[.val (.int p0), .val (.int c0), .val (.int c1), .val (.int c2)] [(.int (0 : Int32)), (.ref a156), (.ref a156), (.ref a146), (.ref a146)])) (fun _ kk => XS.iconst X157.here hx rfl (hb hby dtext_48) kk) ?_
        refine own_step (T' := T157) (g' := (mkF m 50 #[.val (.int p0), .val (.int c0), .val (.int c1), .val (.int c2)] [(.int c0), (.int (0 : Int32)), (.ref a156), (.ref a156), (.ref a146), (.ref a146)])) (fun _ kk => XS.iloadN X157.here hx rfl (hb hby dtext_49) rfl kk) ?_
        obtain ⟨Ac170, Ar170, q170, Sz170, Nn170, Hs170, Gs170⟩ := F169
        obtain ⟨T170, h170, X170, e170, W170, st170⟩ := stC X157 hx hZ e157 Ar170 (j := (0 : Int32)) (x := c0) (inb_of Sz170 ⟨by decide, by decide⟩) (g := (mkF m 50 #[.val (.int p0), .val (.int c0), .val (.int c1), .val (.int c2)] [(.int c0), (.int (0 : Int32)), (.ref a156), (.ref a156), (.ref a146), (.ref a146)])) rfl rfl (hb hby dtext_50)
        have F171 := Fr.snoc X170 F67 ge159
        have F172 := Safe.wr W170 F167 F163 F161
        have F173 := F162.wr W170
        have F174 := Safe.wr W170 F167 F163 F167
        have F175 := CHv.wr W170 F167 F163
        have F176 := (Nat.le_trans F164 (Nat.le_of_eq (Wr.size W170).symm))
        have F177 := F165.wr W170 ge159
        have F178 := F166.wr W170 (Or.inr ng160)
        have F179 : Arv Z h170 a156 cA157 .char (2 : Int32) [(.int c0), (.int 0)] (.int 0) := by
          have q := Arv.set Ar170 q170 Sz170 Nn170 Hs170 Gs170 (fits_nar_char _) W170 0 rfl (Nat.le_of_ble_eq_true rfl)
          rw [own_n8 b0.1 b0.2] at q
          exact q
        refine own_step (T' := T170) (g' := (mkF m 51 #[.val (.int p0), .val (.int c0), .val (.int c1), .val (.int c2)] [(.ref a156), (.ref a146), (.ref a146)])) (fun _ kk => st170 _ kk) ?_
        refine own_step (T' := T170) (g' := (mkF m 52 #[.val (.int p0), .val (.int c0), .val (.int c1), .val (.int c2)] [(.ref a156), (.ref a156), (.ref a146), (.ref a146)])) (fun _ kk => XS.dup X170.here hx rfl (hb hby dtext_51) rfl rfl kk) ?_
        refine own_step (T' := T170) (g' := (mkF m 53 #[.val (.int p0), .val (.int c0), .val (.int c1), .val (.int c2)] [(.int (1 : Int32)), (.ref a156), (.ref a156), (.ref a146), (.ref a146)])) (fun _ kk => XS.iconst X170.here hx rfl (hb hby dtext_52) kk) ?_
        refine own_step (T' := T170) (g' := (mkF m 54 #[.val (.int p0), .val (.int c0), .val (.int c1), .val (.int c2)] [(.int c1), (.int (1 : Int32)), (.ref a156), (.ref a156), (.ref a146), (.ref a146)])) (fun _ kk => XS.iloadN X170.here hx rfl (hb hby dtext_53) rfl kk) ?_
        obtain ⟨Ac180, Ar180, q180, Sz180, Nn180, Hs180, Gs180⟩ := F179
        obtain ⟨T180, h180, X180, e180, W180, st180⟩ := stC X170 hx hZ e170 Ar180 (j := (1 : Int32)) (x := c1) (inb_of Sz180 ⟨by decide, by decide⟩) (g := (mkF m 54 #[.val (.int p0), .val (.int c0), .val (.int c1), .val (.int c2)] [(.int c1), (.int (1 : Int32)), (.ref a156), (.ref a156), (.ref a146), (.ref a146)])) rfl rfl (hb hby dtext_54)
        have F181 := Fr.snoc X180 F171 ge159
        have F182 := Safe.wr W180 F174 F175 F172
        have F183 := F173.wr W180
        have F184 := Safe.wr W180 F174 F175 F174
        have F185 := CHv.wr W180 F174 F175
        have F186 := (Nat.le_trans F176 (Nat.le_of_eq (Wr.size W180).symm))
        have F187 := F177.wr W180 ge159
        have F188 := F178.wr W180 (Or.inr ng160)
        have F189 : Arv Z h180 a156 cA157 .char (2 : Int32) [(.int c0), (.int c1)] (.int 0) := by
          have q := Arv.set Ar180 q180 Sz180 Nn180 Hs180 Gs180 (fits_nar_char _) W180 1 rfl (Nat.le_of_ble_eq_true rfl)
          rw [own_n8 b1.1 b1.2] at q
          exact q
        refine own_step (T' := T180) (g' := (mkF m 55 #[.val (.int p0), .val (.int c0), .val (.int c1), .val (.int c2)] [(.ref a156), (.ref a146), (.ref a146)])) (fun _ kk => st180 _ kk) ?_
        obtain ⟨u190, Fu190⟩ := F183.fld (w12 hw) (Or.inr (w40 hw) : Laid Z a0 "java/lang/String" "java/lang/String" "value" "[B")
        obtain ⟨y190, Fy190⟩ := F183.fld (w12 hw) (Or.inr (w38 hw) : Laid Z a0 "java/lang/String" "java/lang/String" "coder" "B")
        obtain ⟨T190, L190, _, h190, X190, e190, ⟨rfl, Nq190, Kq190, Eq190, Cq190, sb190, kb190, ga190, gb190, nb190, Vq190, Aq190⟩, st190⟩ := own_bcallC X180 hx hZ hown rfl (w15 hw) (w16 hw) (w17 hw) (by decide) (a := a146) (g := (mkF m 55 #[.val (.int p0), .val (.int c0), .val (.int c1), .val (.int c2)] [(.ref a156), (.ref a146), (.ref a146)])) rfl (by rw [hml]; rfl) (argsL := [.ref a156]) (rest := [(.ref a146)]) (StrChars.Road.backV (W := 1) hZ (own_hws hw) (kI := 4) (w12 hw) (cs := [c0, c1]) (n := 2) (n0 := Z.heap.size) ge148 (Nat.le_trans F187.2.1 (Nat.le_refl _)) F183.1 Fu190 Fy190 F189 (SC.ext F187.2) hzc rfl rfl (by decide) (by decide) (hB.take 2) rfl (by decide) (by decide)) e180 pd___C_V rfl rfl (by show 2 * 0 + _ ≤ _; exact Nat.le_of_eq rfl) (hb hby dtext_55) (by decide) (by decide)
        have F191 := Fr.app F181 Nq190
        have F192 := Safe.keep Kq190 (allS F182 all0) F185 F182
        have F193 := F183.keep Kq190
        have F194 := Safe.keep Kq190 (allS F182 all0) F185 F184
        have F195 := F189.keep Kq190 (ninS (Ne.symm ne158) nin0)
        have F196 := CHv.keep Kq190 (allS F182 all0) F185
        have F197 := Nat.le_trans F186 Kq190.1
        have F198 := F187.keep Kq190 (allS ge148 all0)
        have F199 := F188.trans Kq190 (allS (Or.inr ng149) all0)
        refine own_step (T' := T190) (g' := (mkF m 58 #[.val (.int p0), .val (.int c0), .val (.int c1), .val (.int c2)] [(.ref a146)])) (fun _ kk => st190 _ kk) ?_
        exact own_retAW X190 hx hS0 F197 hlk (t := (.object "java/lang/String")) hret rfl rfl rfl (hb hby dtext_58) e190 ⟨_, rfl, F191, F199, F193.1⟩ (by decide) (by decide)
      · refine own_step (T' := s₁) (g' := (mkF m 59 #[.val (.int p0), .val (.int c0), .val (.int c1), .val (.int c2)] [])) (fun _ kk => XS.icmpYes X0.here hx rfl (pc0 := 37) (pc' := 59) rfl (hb hby dtext_37) rfl (feq c145).2 (by decide) (by decide) kk) ?_
        obtain ⟨T201, h201, X201, e201, E201, A201, D201, U201, st201⟩ := newO X0 hx hZ hown (w11 hw) (w12 hw) (w13 hw) e0 (g := (mkF m 59 #[.val (.int p0), .val (.int c0), .val (.int c1), .val (.int c2)] [])) rfl (hb hby dtext_59) (by decide) (by decide)
        obtain ⟨a200, g201⟩ : ∃ z, z = h0.size := ⟨_, rfl⟩
        rw [← g201] at A201 D201 U201 st201
        have ge202 : Z.heap.size ≤ a200 := by rw [g201]; exact O0.2.1
        have ng203 : h0.size ≤ a200 := by rw [g201]; exact F68.1
        have F204 := CHv.ext E201 hJ
        have F205 := Nat.le_trans (Nat.zero_le _) E201.1
        have F206 := O0.ext E201
        have F207 := F68.ext E201
        have F208 := Safe.ext E201 hJ (Safe.new (Nat.le_of_eq g201.symm))
        have F209 : own_Obj Z h201 a200 "java/lang/String" := own_Obj.new A201 U201
        refine own_step (T' := T201) (g' := (mkF m 62 #[.val (.int p0), .val (.int c0), .val (.int c1), .val (.int c2)] [(.ref a200)])) (fun _ kk => st201 _ kk) ?_
        refine own_step (T' := T201) (g' := (mkF m 63 #[.val (.int p0), .val (.int c0), .val (.int c1), .val (.int c2)] [(.ref a200), (.ref a200)])) (fun _ kk => XS.dup X201.here hx rfl (hb hby dtext_62) rfl rfl kk) ?_
        refine own_step (T' := T201) (g' := (mkF m 64 #[.val (.int p0), .val (.int c0), .val (.int c1), .val (.int c2)] [(.int (3 : Int32)), (.ref a200), (.ref a200)])) (fun _ kk => XS.iconst X201.here hx rfl (hb hby dtext_63) kk) ?_
        obtain ⟨T211, h211, cA211, X211, e211, E211, A211, st211⟩ := newP X201 hx hZ (aty := .char) (w14 hw) e201 (g := (mkF m 64 #[.val (.int p0), .val (.int c0), .val (.int c1), .val (.int c2)] [(.int (3 : Int32)), (.ref a200), (.ref a200)])) rfl (hb hby dtext_64) rfl (by decide) (cap := 3) (by decide) (by decide) (by decide) (by decide)
        obtain ⟨a210, g211⟩ : ∃ z, z = h201.size := ⟨_, rfl⟩
        rw [← g211] at A211 st211
        have ne212 : a200 ≠ a210 := Nat.ne_of_lt (by rw [g211]; exact F209.lt)
        have ge213 : Z.heap.size ≤ a210 := by rw [g211]; exact F206.2.1
        have ng214 : h0.size ≤ a210 := by rw [g211]; exact F207.1
        have F215 := Safe.ext E211 F204 F208
        have F216 := F209.ext E211
        have F217 := CHv.ext E211 F204
        have F218 := Nat.le_trans F205 E211.1
        have F219 := F206.ext E211
        have F220 := F207.ext E211
        have F221 := Safe.ext E211 F204 (Safe.new (Nat.le_of_eq g211.symm))
        have F222 : Arv Z h211 a210 cA211 .char (3 : Int32) [] (.int 0) := Arv.new A211 (by decide)
        refine own_step (T' := T211) (g' := (mkF m 66 #[.val (.int p0), .val (.int c0), .val (.int c1), .val (.int c2)] [(.ref a210), (.ref a200), (.ref a200)])) (fun _ kk => st211 _ kk) ?_
        have F223 : Arv Z h211 a210 cA211 .char (3 : Int32) [(.int 0), (.int 0), (.int 0)] (.int 0) := Arv.pad F222 (pad_rep [] (.int 0) 3)
        refine own_step (T' := T211) (g' := (mkF m 67 #[.val (.int p0), .val (.int c0), .val (.int c1), .val (.int c2)] [(.ref a210), (.ref a210), (.ref a200), (.ref a200)])) (fun _ kk => XS.dup X211.here hx rfl (hb hby dtext_66) rfl rfl kk) ?_
        refine own_step (T' := T211) (g' := (mkF m 68 #[.val (.int p0), .val (.int c0), .val (.int c1), .val (.int c2)] [(.int (0 : Int32)), (.ref a210), (.ref a210), (.ref a200), (.ref a200)])) (fun _ kk => XS.iconst X211.here hx rfl (hb hby dtext_67) kk) ?_
        refine own_step (T' := T211) (g' := (mkF m 69 #[.val (.int p0), .val (.int c0), .val (.int c1), .val (.int c2)] [(.int c0), (.int (0 : Int32)), (.ref a210), (.ref a210), (.ref a200), (.ref a200)])) (fun _ kk => XS.iloadN X211.here hx rfl (hb hby dtext_68) rfl kk) ?_
        obtain ⟨Ac224, Ar224, q224, Sz224, Nn224, Hs224, Gs224⟩ := F223
        obtain ⟨T224, h224, X224, e224, W224, st224⟩ := stC X211 hx hZ e211 Ar224 (j := (0 : Int32)) (x := c0) (inb_of Sz224 ⟨by decide, by decide⟩) (g := (mkF m 69 #[.val (.int p0), .val (.int c0), .val (.int c1), .val (.int c2)] [(.int c0), (.int (0 : Int32)), (.ref a210), (.ref a210), (.ref a200), (.ref a200)])) rfl rfl (hb hby dtext_69)
        have F225 := Fr.snoc X224 F67 ge213
        have F226 := Safe.wr W224 F221 F217 F215
        have F227 := F216.wr W224
        have F228 := Safe.wr W224 F221 F217 F221
        have F229 := CHv.wr W224 F221 F217
        have F230 := (Nat.le_trans F218 (Nat.le_of_eq (Wr.size W224).symm))
        have F231 := F219.wr W224 ge213
        have F232 := F220.wr W224 (Or.inr ng214)
        have F233 : Arv Z h224 a210 cA211 .char (3 : Int32) [(.int c0), (.int 0), (.int 0)] (.int 0) := by
          have q := Arv.set Ar224 q224 Sz224 Nn224 Hs224 Gs224 (fits_nar_char _) W224 0 rfl (Nat.le_of_ble_eq_true rfl)
          rw [own_n8 b0.1 b0.2] at q
          exact q
        refine own_step (T' := T224) (g' := (mkF m 70 #[.val (.int p0), .val (.int c0), .val (.int c1), .val (.int c2)] [(.ref a210), (.ref a200), (.ref a200)])) (fun _ kk => st224 _ kk) ?_
        refine own_step (T' := T224) (g' := (mkF m 71 #[.val (.int p0), .val (.int c0), .val (.int c1), .val (.int c2)] [(.ref a210), (.ref a210), (.ref a200), (.ref a200)])) (fun _ kk => XS.dup X224.here hx rfl (hb hby dtext_70) rfl rfl kk) ?_
        refine own_step (T' := T224) (g' := (mkF m 72 #[.val (.int p0), .val (.int c0), .val (.int c1), .val (.int c2)] [(.int (1 : Int32)), (.ref a210), (.ref a210), (.ref a200), (.ref a200)])) (fun _ kk => XS.iconst X224.here hx rfl (hb hby dtext_71) kk) ?_
        refine own_step (T' := T224) (g' := (mkF m 73 #[.val (.int p0), .val (.int c0), .val (.int c1), .val (.int c2)] [(.int c1), (.int (1 : Int32)), (.ref a210), (.ref a210), (.ref a200), (.ref a200)])) (fun _ kk => XS.iloadN X224.here hx rfl (hb hby dtext_72) rfl kk) ?_
        obtain ⟨Ac234, Ar234, q234, Sz234, Nn234, Hs234, Gs234⟩ := F233
        obtain ⟨T234, h234, X234, e234, W234, st234⟩ := stC X224 hx hZ e224 Ar234 (j := (1 : Int32)) (x := c1) (inb_of Sz234 ⟨by decide, by decide⟩) (g := (mkF m 73 #[.val (.int p0), .val (.int c0), .val (.int c1), .val (.int c2)] [(.int c1), (.int (1 : Int32)), (.ref a210), (.ref a210), (.ref a200), (.ref a200)])) rfl rfl (hb hby dtext_73)
        have F235 := Fr.snoc X234 F225 ge213
        have F236 := Safe.wr W234 F228 F229 F226
        have F237 := F227.wr W234
        have F238 := Safe.wr W234 F228 F229 F228
        have F239 := CHv.wr W234 F228 F229
        have F240 := (Nat.le_trans F230 (Nat.le_of_eq (Wr.size W234).symm))
        have F241 := F231.wr W234 ge213
        have F242 := F232.wr W234 (Or.inr ng214)
        have F243 : Arv Z h234 a210 cA211 .char (3 : Int32) [(.int c0), (.int c1), (.int 0)] (.int 0) := by
          have q := Arv.set Ar234 q234 Sz234 Nn234 Hs234 Gs234 (fits_nar_char _) W234 1 rfl (Nat.le_of_ble_eq_true rfl)
          rw [own_n8 b1.1 b1.2] at q
          exact q
        refine own_step (T' := T234) (g' := (mkF m 74 #[.val (.int p0), .val (.int c0), .val (.int c1), .val (.int c2)] [(.ref a210), (.ref a200), (.ref a200)])) (fun _ kk => st234 _ kk) ?_
        refine own_step (T' := T234) (g' := (mkF m 75 #[.val (.int p0), .val (.int c0), .val (.int c1), .val (.int c2)] [(.ref a210), (.ref a210), (.ref a200), (.ref a200)])) (fun _ kk => XS.dup X234.here hx rfl (hb hby dtext_74) rfl rfl kk) ?_
        refine own_step (T' := T234) (g' := (mkF m 76 #[.val (.int p0), .val (.int c0), .val (.int c1), .val (.int c2)] [(.int (2 : Int32)), (.ref a210), (.ref a210), (.ref a200), (.ref a200)])) (fun _ kk => XS.iconst X234.here hx rfl (hb hby dtext_75) kk) ?_
        refine own_step (T' := T234) (g' := (mkF m 77 #[.val (.int p0), .val (.int c0), .val (.int c1), .val (.int c2)] [(.int c2), (.int (2 : Int32)), (.ref a210), (.ref a210), (.ref a200), (.ref a200)])) (fun _ kk => XS.iloadN X234.here hx rfl (hb hby dtext_76) rfl kk) ?_
        obtain ⟨Ac244, Ar244, q244, Sz244, Nn244, Hs244, Gs244⟩ := F243
        obtain ⟨T244, h244, X244, e244, W244, st244⟩ := stC X234 hx hZ e234 Ar244 (j := (2 : Int32)) (x := c2) (inb_of Sz244 ⟨by decide, by decide⟩) (g := (mkF m 77 #[.val (.int p0), .val (.int c0), .val (.int c1), .val (.int c2)] [(.int c2), (.int (2 : Int32)), (.ref a210), (.ref a210), (.ref a200), (.ref a200)])) rfl rfl (hb hby dtext_77)
        have F245 := Fr.snoc X244 F235 ge213
        have F246 := Safe.wr W244 F238 F239 F236
        have F247 := F237.wr W244
        have F248 := Safe.wr W244 F238 F239 F238
        have F249 := CHv.wr W244 F238 F239
        have F250 := (Nat.le_trans F240 (Nat.le_of_eq (Wr.size W244).symm))
        have F251 := F241.wr W244 ge213
        have F252 := F242.wr W244 (Or.inr ng214)
        have F253 : Arv Z h244 a210 cA211 .char (3 : Int32) [(.int c0), (.int c1), (.int c2)] (.int 0) := by
          have q := Arv.set Ar244 q244 Sz244 Nn244 Hs244 Gs244 (fits_nar_char _) W244 2 rfl (Nat.le_of_ble_eq_true rfl)
          rw [own_n8 b2.1 b2.2] at q
          exact q
        refine own_step (T' := T244) (g' := (mkF m 78 #[.val (.int p0), .val (.int c0), .val (.int c1), .val (.int c2)] [(.ref a210), (.ref a200), (.ref a200)])) (fun _ kk => st244 _ kk) ?_
        obtain ⟨u254, Fu254⟩ := F247.fld (w12 hw) (Or.inr (w40 hw) : Laid Z a0 "java/lang/String" "java/lang/String" "value" "[B")
        obtain ⟨y254, Fy254⟩ := F247.fld (w12 hw) (Or.inr (w38 hw) : Laid Z a0 "java/lang/String" "java/lang/String" "coder" "B")
        obtain ⟨T254, L254, _, h254, X254, e254, ⟨rfl, Nq254, Kq254, Eq254, Cq254, sb254, kb254, ga254, gb254, nb254, Vq254, Aq254⟩, st254⟩ := own_bcallC X244 hx hZ hown rfl (w15 hw) (w16 hw) (w17 hw) (by decide) (a := a200) (g := (mkF m 78 #[.val (.int p0), .val (.int c0), .val (.int c1), .val (.int c2)] [(.ref a210), (.ref a200), (.ref a200)])) rfl (by rw [hml]; rfl) (argsL := [.ref a210]) (rest := [(.ref a200)]) (StrChars.Road.backV (W := 1) hZ (own_hws hw) (kI := 4) (w12 hw) (cs := [c0, c1, c2]) (n := 3) (n0 := Z.heap.size) ge202 (Nat.le_trans F251.2.1 (Nat.le_refl _)) F247.1 Fu254 Fy254 F253 (SC.ext F251.2) hzc rfl rfl (by decide) (by decide) (hB.take 3) rfl (by decide) (by decide)) e244 pd___C_V rfl rfl (by show 2 * 0 + _ ≤ _; exact Nat.le_of_eq rfl) (hb hby dtext_78) (by decide) (by decide)
        have F255 := Fr.app F245 Nq254
        have F256 := Safe.keep Kq254 (allS F246 all0) F249 F246
        have F257 := F247.keep Kq254
        have F258 := Safe.keep Kq254 (allS F246 all0) F249 F248
        have F259 := F253.keep Kq254 (ninS (Ne.symm ne212) nin0)
        have F260 := CHv.keep Kq254 (allS F246 all0) F249
        have F261 := Nat.le_trans F250 Kq254.1
        have F262 := F251.keep Kq254 (allS ge202 all0)
        have F263 := F252.trans Kq254 (allS (Or.inr ng203) all0)
        refine own_step (T' := T254) (g' := (mkF m 81 #[.val (.int p0), .val (.int c0), .val (.int c1), .val (.int c2)] [(.ref a200)])) (fun _ kk => st254 _ kk) ?_
        exact own_retAW X254 hx hS0 F261 hlk (t := (.object "java/lang/String")) hret rfl rfl rfl (hb hby dtext_81) e254 ⟨_, rfl, F255, F263, F257.1⟩ (by decide) (by decide)
theorem drn_0 : decode jdk_31_method_11_code 0 = .ok (.aload_n 0, 1) := by decide +kernel
theorem drn_1 : decode jdk_31_method_11_code 1 = .ok (.ifnonnull 12, 3) := by decide +kernel
theorem drn_4 : decode jdk_31_method_11_code 4 = .ok (.new 84, 3) := by decide +kernel
theorem drn_7 : decode jdk_31_method_11_code 7 = .ok (.dup, 1) := by decide +kernel
theorem drn_8 : decode jdk_31_method_11_code 8 = .ok (.aload_n 1, 1) := by decide +kernel
theorem drn_9 : decode jdk_31_method_11_code 9 = .ok (.invokespecial 87, 3) := by decide +kernel
theorem drn_12 : decode jdk_31_method_11_code 12 = .ok (.athrow, 1) := by decide +kernel
theorem drn_13 : decode jdk_31_method_11_code 13 = .ok (.aload_n 0, 1) := by decide +kernel
theorem drn_14 : decode jdk_31_method_11_code 14 = .ok (.areturn, 1) := by decide +kernel
set_option maxRecDepth 65536 in
set_option maxHeartbeats 40000000 in
theorem rm_rn (l : Launch) (Z : State) (a0 : Array Value) (hw : ∀ d ∈ tables_1, d.before a0 Z = true) (a1 b2 : Addr) (h0 : Heap) (O0 : Old Z Z.heap.size h0)  :
    own_Con l Z (⟨"java/util/Objects", "requireNonNull", "(Ljava/lang/Object;Ljava/lang/String;)Ljava/lang/Object;"⟩ : MethodName) jdk_31_method_11_code 2 (some (.object "java/lang/Object")) ({ frames := 0, cells := 0, slots := 0, locals := 0 } : Room) #[(.ref a1), (.ref b2)] h0 (fun v h L => v = some (.ref a1) ∧ Fr Z.heap.size L ∧ h = h0) := by
  refine own_con (ls := #[.val (.ref a1), .val (.ref b2)]) (pn_java_util_Objects) (fun m => by first | (simp [entryFrame, mkF, argsToLocals, Value.category]; done) | rfl) ?_
  intro p e s m below meth c s₁ hx hby hml0 hown0 hnm0 hret0 hlk hZ X0 e0
  have hml : c.maxLocals = 2 := hml0
  have hown : s.vm.findClass "java/util/Objects" = some m.cls := hown0
  have hnm : meth.name = "requireNonNull" := hnm0
  have hret : meth.sig.returnType = (some (.object "java/lang/Object")) := hret0
  have F264 := Fr.nil Z.heap.size
  have F265 := Keep.refl h0 []
  refine own_step (T' := s₁) (g' := (mkF m 1 #[.val (.ref a1), .val (.ref b2)] [(.ref a1)])) (fun _ kk => XS.aloadN X0.here hx rfl (hb hby drn_0) rfl rfl kk) ?_
  refine own_step (T' := s₁) (g' := (mkF m 13 #[.val (.ref a1), .val (.ref b2)] [])) (fun _ kk => XS.ifnonnullYes X0.here hx rfl (pc0 := 1) (pc' := 13) rfl (hb hby drn_1) rfl (by decide) (by decide) kk) ?_
  refine own_step (T' := s₁) (g' := (mkF m 14 #[.val (.ref a1), .val (.ref b2)] [(.ref a1)])) (fun _ kk => XS.aloadN X0.here hx rfl (hb hby drn_13) rfl rfl kk) ?_
  exact own_retA X0 hx hlk (t := (.object "java/lang/Object")) hret rfl rfl rfl (hb hby drn_14) e0 ⟨rfl, F264, rfl⟩ (by decide) (by decide)
theorem dvi_0 : decode prog_12_method_1_code 0 = .ok (.aload_n 0, 1) := by decide +kernel
theorem dvi_1 : decode prog_12_method_1_code 1 = .ok (.invokespecial 1, 3) := by decide +kernel
theorem dvi_4 : decode prog_12_method_1_code 4 = .ok (.aload_n 0, 1) := by decide +kernel
theorem dvi_5 : decode prog_12_method_1_code 5 = .ok (.aload_n 1, 1) := by decide +kernel
theorem dvi_6 : decode prog_12_method_1_code 6 = .ok (.ldc 7, 2) := by decide +kernel
theorem dvi_8 : decode prog_12_method_1_code 8 = .ok (.invokestatic 9, 3) := by decide +kernel
theorem dvi_11 : decode prog_12_method_1_code 11 = .ok (.checkcast 15, 3) := by decide +kernel
theorem dvi_14 : decode prog_12_method_1_code 14 = .ok (.putfield 17, 3) := by decide +kernel
theorem dvi_17 : decode prog_12_method_1_code 17 = .ok (.aload_n 0, 1) := by decide +kernel
theorem dvi_18 : decode prog_12_method_1_code 18 = .ok (.aload_n 2, 1) := by decide +kernel
theorem dvi_19 : decode prog_12_method_1_code 19 = .ok (.putfield 22, 3) := by decide +kernel
theorem dvi_22 : decode prog_12_method_1_code 22 = .ok (.aload_n 0, 1) := by decide +kernel
theorem dvi_23 : decode prog_12_method_1_code 23 = .ok (.aload_n 3, 1) := by decide +kernel
theorem dvi_24 : decode prog_12_method_1_code 24 = .ok (.putfield 26, 3) := by decide +kernel
theorem dvi_27 : decode prog_12_method_1_code 27 = .ok (.aload_n 0, 1) := by decide +kernel
theorem dvi_28 : decode prog_12_method_1_code 28 = .ok (.aload 4, 2) := by decide +kernel
theorem dvi_30 : decode prog_12_method_1_code 30 = .ok (.ldc 29, 2) := by decide +kernel
theorem dvi_32 : decode prog_12_method_1_code 32 = .ok (.invokestatic 9, 3) := by decide +kernel
theorem dvi_35 : decode prog_12_method_1_code 35 = .ok (.checkcast 31, 3) := by decide +kernel
theorem dvi_38 : decode prog_12_method_1_code 38 = .ok (.putfield 33, 3) := by decide +kernel
theorem dvi_41 : decode prog_12_method_1_code 41 = .ok (.return_, 1) := by decide +kernel
set_option maxRecDepth 65536 in
set_option maxHeartbeats 40000000 in
theorem rm_vi (l : Launch) (Z : State) (a0 : Array Value) (hw : ∀ d ∈ tables_1, d.before a0 Z = true) (a1 x2 b5 : Addr) (h0 : Heap) (O0 : Old Z Z.heap.size h0) (O1 : own_Obj Z h0 a1 "com/example/frugal_scheduler/frugalscheduler/plan/Violation") (g1 : Z.heap.size ≤ a1) (E2 : Exa Z h0 x2 "com/example/frugal_scheduler/frugalscheduler/plan/Rule") (E5 : Exa Z h0 b5 "java/lang/String") :
    own_ConW l Z (fun _ => True) (⟨"com/example/frugal_scheduler/frugalscheduler/plan/Violation", "<init>", "(Lcom/example/frugal_scheduler/frugalscheduler/plan/Rule;Ljava/lang/String;Ljava/lang/String;Ljava/lang/String;)V"⟩ : MethodName) prog_12_method_1_code 5 none ({ frames := 1, cells := 4, slots := 52, locals := 14 } : Room) #[(.ref a1), (.ref x2), .null, .null, (.ref b5)] h0 (fun v h L => v = none ∧ Fr Z.heap.size L ∧ Keep h0 h [a1] ∧ own_Obj Z h a1 "com/example/frugal_scheduler/frugalscheduler/plan/Violation" ∧ Fld Z h a1 "com/example/frugal_scheduler/frugalscheduler/plan/Violation" "rule" "Lcom/example/frugal_scheduler/frugalscheduler/plan/Rule;" (.ref x2) ∧ Fld Z h a1 "com/example/frugal_scheduler/frugalscheduler/plan/Violation" "task" "Ljava/lang/String;" .null ∧ Fld Z h a1 "com/example/frugal_scheduler/frugalscheduler/plan/Violation" "vm" "Ljava/lang/String;" .null ∧ Fld Z h a1 "com/example/frugal_scheduler/frugalscheduler/plan/Violation" "message" "Ljava/lang/String;" (.ref b5)) := by
  refine own_conW (ls := #[.val (.ref a1), .val (.ref x2), .val .null, .val .null, .val (.ref b5)]) (pn_com_example_frugal_scheduler_frugalscheduler_plan_Violation) (fun m => by first | (simp [entryFrame, mkF, argsToLocals, Value.category]; done) | rfl) ?_
  intro p e s m below meth c s₁ hx hby hml0 hown0 hnm0 hret0 hlk hZ X0 e0 hS0 hJ
  have hml : c.maxLocals = 5 := hml0
  have hown : s.vm.findClass "com/example/frugal_scheduler/frugalscheduler/plan/Violation" = some m.cls := hown0
  have hnm : meth.name = "<init>" := hnm0
  have hret : meth.sig.returnType = none := hret0
  have F266 := Fr.nil Z.heap.size
  have F267 := Keep.refl h0 []
  have F268 := Keep.refl h0 [a1]
  refine own_step (T' := s₁) (g' := (mkF m 1 #[.val (.ref a1), .val (.ref x2), .val .null, .val .null, .val (.ref b5)] [(.ref a1)])) (fun _ kk => XS.aloadN X0.here hx rfl (hb hby dvi_0) rfl rfl kk) ?_
  obtain ⟨T269, X269, e269, st269⟩ := initO X0 hx hZ hown (w50 hw) (w23 hw) (w24 hw) e0 (g := (mkF m 1 #[.val (.ref a1), .val (.ref x2), .val .null, .val .null, .val (.ref b5)] [(.ref a1)])) rfl (by rw [hml]; rfl) rfl (hb hby dvi_1) (by decide) (W := 0) (by show 2 * 0 + _ ≤ _; exact Nat.le_of_eq rfl) (by decide)
  refine own_step (T' := T269) (g' := (mkF m 4 #[.val (.ref a1), .val (.ref x2), .val .null, .val .null, .val (.ref b5)] [])) (fun _ kk => st269 _ kk) ?_
  refine own_step (T' := T269) (g' := (mkF m 5 #[.val (.ref a1), .val (.ref x2), .val .null, .val .null, .val (.ref b5)] [(.ref a1)])) (fun _ kk => XS.aloadN X269.here hx rfl (hb hby dvi_4) rfl rfl kk) ?_
  refine own_step (T' := T269) (g' := (mkF m 6 #[.val (.ref a1), .val (.ref x2), .val .null, .val .null, .val (.ref b5)] [(.ref x2), (.ref a1)])) (fun _ kk => XS.aloadN X269.here hx rfl (hb hby dvi_5) rfl rfl kk) ?_
  obtain ⟨sa270, T270, h270, k270, X270, e270, E270, hS270, hk270, hZ270, ho270, st270⟩ := ldcS X269 hx hZ hown (w51 hw) (own_strAtoms hw) e269 hS0 (Nat.zero_le _) (g := (mkF m 6 #[.val (.ref a1), .val (.ref x2), .val .null, .val .null, .val (.ref b5)] [(.ref x2), (.ref a1)])) rfl (hb hby dvi_6) (n := 16) (by decide) (by decide) (by decide) (by decide)
  have F271 := O1.ext E270
  have F272 := E2.ext E270
  have F273 := E5.ext E270
  have F274 := Nat.le_trans (Nat.zero_le _) E270.1
  have F275 := O0.ext E270
  have F276 := F268.ext E270
  refine own_step (T' := T270) (g' := (mkF m 8 #[.val (.ref a1), .val (.ref x2), .val .null, .val .null, .val (.ref b5)] [(.ref sa270), (.ref x2), (.ref a1)])) (fun _ kk => st270 _ kk) ?_
  obtain ⟨T278, L278, _, h278, X278, e278, ⟨rfl, Nq277, eh277⟩, st278⟩ := own_callS X270 hx hZ270 ho270 (w54 hw) (w55 hw) (w57 hw) (w56 hw) (by decide) (g := (mkF m 8 #[.val (.ref a1), .val (.ref x2), .val .null, .val .null, .val (.ref b5)] [(.ref sa270), (.ref x2), (.ref a1)])) rfl (by rw [hml]; rfl) (argsL := [(.ref x2), (.ref sa270)]) (rest := [(.ref a1)]) (rm_rn l Z a0 hw x2 sa270 _ F275) e270 pd__Ljava_lang_Object_Ljava_lang_String__Ljava_lang_Object_ rfl rfl (W := 1) (by show 2 * 0 + _ ≤ _; exact Nat.le_of_eq rfl) (hb hby dvi_8) (by decide) (by decide) (by decide) (by decide)
  have F279 := Fr.app F266 Nq277
  have F280 := e278.trans eh277
  refine own_step (T' := T278) (g' := (mkF m 11 #[.val (.ref a1), .val (.ref x2), .val .null, .val .null, .val (.ref b5)] [(.ref x2), (.ref a1)])) (fun _ kk => st278 _ kk) ?_
  obtain ⟨T281, X281, e281, st281⟩ := castY X278 hx hZ270 ho270 (w58 hw) F280 (Ins.self F272) (g := (mkF m 11 #[.val (.ref a1), .val (.ref x2), .val .null, .val .null, .val (.ref b5)] [(.ref x2), (.ref a1)])) rfl rfl (hb hby dvi_11)
  refine own_step (T' := T281) (g' := (mkF m 14 #[.val (.ref a1), .val (.ref x2), .val .null, .val .null, .val (.ref b5)] [(.ref x2), (.ref a1)])) (fun _ kk => st281 _ kk) ?_
  obtain ⟨u282, Fu282⟩ := F271.fld (w46 hw) (Or.inr (w61 hw) : Laid Z a0 "com/example/frugal_scheduler/frugalscheduler/plan/Violation" "com/example/frugal_scheduler/frugalscheduler/plan/Violation" "rule" "Lcom/example/frugal_scheduler/frugalscheduler/plan/Rule;")
  obtain ⟨T282, h282, X282, e282, W282, st282⟩ := putF X281 hx hZ270 ho270 (host := "") (Or.inl (w60 hw)) Via.refl e281 Fu282 F271.1 (Or.inr ⟨(w61 hw), rfl, hnm⟩) (w46 hw) (ty := (.object "com/example/frugal_scheduler/frugalscheduler/plan/Rule")) (by decide) rfl rfl (g := (mkF m 14 #[.val (.ref a1), .val (.ref x2), .val .null, .val .null, .val (.ref b5)] [(.ref x2), (.ref a1)])) rfl rfl (hb hby dvi_14)
  have F283 := Fr.snoc X282 F279 g1
  have F284 := F271.wr W282
  have F285 := F272.wr W282
  have F286 := F273.wr W282
  have F287 := (Nat.le_trans hk270 (Nat.le_of_eq (Wr.size W282).symm))
  have F288 := F275.wr W282 g1
  have F289 := F276.wr W282 (Or.inl (List.mem_of_getElem? (i := 0) rfl))
  have F290 : Fld Z h282 a1 "com/example/frugal_scheduler/frugalscheduler/plan/Violation" "rule" "Lcom/example/frugal_scheduler/frugalscheduler/plan/Rule;" (.ref x2) := Fu282.same W282
  refine own_step (T' := T282) (g' := (mkF m 17 #[.val (.ref a1), .val (.ref x2), .val .null, .val .null, .val (.ref b5)] [])) (fun _ kk => st282 _ kk) ?_
  refine own_step (T' := T282) (g' := (mkF m 18 #[.val (.ref a1), .val (.ref x2), .val .null, .val .null, .val (.ref b5)] [(.ref a1)])) (fun _ kk => XS.aloadN X282.here hx rfl (hb hby dvi_17) rfl rfl kk) ?_
  refine own_step (T' := T282) (g' := (mkF m 19 #[.val (.ref a1), .val (.ref x2), .val .null, .val .null, .val (.ref b5)] [.null, (.ref a1)])) (fun _ kk => XS.aloadN X282.here hx rfl (hb hby dvi_18) rfl rfl kk) ?_
  obtain ⟨u291, Fu291⟩ := F284.fld (w46 hw) (Or.inr (w63 hw) : Laid Z a0 "com/example/frugal_scheduler/frugalscheduler/plan/Violation" "com/example/frugal_scheduler/frugalscheduler/plan/Violation" "task" "Ljava/lang/String;")
  obtain ⟨T291, h291, X291, e291, W291, st291⟩ := putF X282 hx hZ270 ho270 (host := "") (Or.inl (w62 hw)) Via.refl e282 Fu291 F284.1 (Or.inr ⟨(w63 hw), rfl, hnm⟩) (w46 hw) (ty := (.object "java/lang/String")) (by decide) rfl rfl (g := (mkF m 19 #[.val (.ref a1), .val (.ref x2), .val .null, .val .null, .val (.ref b5)] [.null, (.ref a1)])) rfl rfl (hb hby dvi_19)
  have F292 := Fr.snoc X291 F283 g1
  have F293 := F284.wr W291
  have F294 := F285.wr W291
  have F295 := F286.wr W291
  have F296 := F290.other W291 (Or.inr (slot_ne (Or.inr (w61 hw) : Laid Z a0 "com/example/frugal_scheduler/frugalscheduler/plan/Violation" "com/example/frugal_scheduler/frugalscheduler/plan/Violation" "rule" "Lcom/example/frugal_scheduler/frugalscheduler/plan/Rule;") (Or.inr (w63 hw) : Laid Z a0 "com/example/frugal_scheduler/frugalscheduler/plan/Violation" "com/example/frugal_scheduler/frugalscheduler/plan/Violation" "task" "Ljava/lang/String;") (by decide) (t := (.object "com/example/frugal_scheduler/frugalscheduler/plan/Rule")) (t' := (.object "java/lang/String")) (by decide) (by decide)))
  have F297 := (Nat.le_trans F287 (Nat.le_of_eq (Wr.size W291).symm))
  have F298 := F288.wr W291 g1
  have F299 := F289.wr W291 (Or.inl (List.mem_of_getElem? (i := 0) rfl))
  have F300 : Fld Z h291 a1 "com/example/frugal_scheduler/frugalscheduler/plan/Violation" "task" "Ljava/lang/String;" .null := Fu291.same W291
  refine own_step (T' := T291) (g' := (mkF m 22 #[.val (.ref a1), .val (.ref x2), .val .null, .val .null, .val (.ref b5)] [])) (fun _ kk => st291 _ kk) ?_
  refine own_step (T' := T291) (g' := (mkF m 23 #[.val (.ref a1), .val (.ref x2), .val .null, .val .null, .val (.ref b5)] [(.ref a1)])) (fun _ kk => XS.aloadN X291.here hx rfl (hb hby dvi_22) rfl rfl kk) ?_
  refine own_step (T' := T291) (g' := (mkF m 24 #[.val (.ref a1), .val (.ref x2), .val .null, .val .null, .val (.ref b5)] [.null, (.ref a1)])) (fun _ kk => XS.aloadN X291.here hx rfl (hb hby dvi_23) rfl rfl kk) ?_
  obtain ⟨u301, Fu301⟩ := F293.fld (w46 hw) (Or.inr (w65 hw) : Laid Z a0 "com/example/frugal_scheduler/frugalscheduler/plan/Violation" "com/example/frugal_scheduler/frugalscheduler/plan/Violation" "vm" "Ljava/lang/String;")
  obtain ⟨T301, h301, X301, e301, W301, st301⟩ := putF X291 hx hZ270 ho270 (host := "") (Or.inl (w64 hw)) Via.refl e291 Fu301 F293.1 (Or.inr ⟨(w65 hw), rfl, hnm⟩) (w46 hw) (ty := (.object "java/lang/String")) (by decide) rfl rfl (g := (mkF m 24 #[.val (.ref a1), .val (.ref x2), .val .null, .val .null, .val (.ref b5)] [.null, (.ref a1)])) rfl rfl (hb hby dvi_24)
  have F302 := Fr.snoc X301 F292 g1
  have F303 := F293.wr W301
  have F304 := F294.wr W301
  have F305 := F295.wr W301
  have F306 := F296.other W301 (Or.inr (slot_ne (Or.inr (w61 hw) : Laid Z a0 "com/example/frugal_scheduler/frugalscheduler/plan/Violation" "com/example/frugal_scheduler/frugalscheduler/plan/Violation" "rule" "Lcom/example/frugal_scheduler/frugalscheduler/plan/Rule;") (Or.inr (w65 hw) : Laid Z a0 "com/example/frugal_scheduler/frugalscheduler/plan/Violation" "com/example/frugal_scheduler/frugalscheduler/plan/Violation" "vm" "Ljava/lang/String;") (by decide) (t := (.object "com/example/frugal_scheduler/frugalscheduler/plan/Rule")) (t' := (.object "java/lang/String")) (by decide) (by decide)))
  have F307 := F300.other W301 (Or.inr (slot_ne (Or.inr (w63 hw) : Laid Z a0 "com/example/frugal_scheduler/frugalscheduler/plan/Violation" "com/example/frugal_scheduler/frugalscheduler/plan/Violation" "task" "Ljava/lang/String;") (Or.inr (w65 hw) : Laid Z a0 "com/example/frugal_scheduler/frugalscheduler/plan/Violation" "com/example/frugal_scheduler/frugalscheduler/plan/Violation" "vm" "Ljava/lang/String;") (by decide) (t := (.object "java/lang/String")) (t' := (.object "java/lang/String")) (by decide) (by decide)))
  have F308 := (Nat.le_trans F297 (Nat.le_of_eq (Wr.size W301).symm))
  have F309 := F298.wr W301 g1
  have F310 := F299.wr W301 (Or.inl (List.mem_of_getElem? (i := 0) rfl))
  have F311 : Fld Z h301 a1 "com/example/frugal_scheduler/frugalscheduler/plan/Violation" "vm" "Ljava/lang/String;" .null := Fu301.same W301
  refine own_step (T' := T301) (g' := (mkF m 27 #[.val (.ref a1), .val (.ref x2), .val .null, .val .null, .val (.ref b5)] [])) (fun _ kk => st301 _ kk) ?_
  refine own_step (T' := T301) (g' := (mkF m 28 #[.val (.ref a1), .val (.ref x2), .val .null, .val .null, .val (.ref b5)] [(.ref a1)])) (fun _ kk => XS.aloadN X301.here hx rfl (hb hby dvi_27) rfl rfl kk) ?_
  refine own_step (T' := T301) (g' := (mkF m 30 #[.val (.ref a1), .val (.ref x2), .val .null, .val .null, .val (.ref b5)] [(.ref b5), (.ref a1)])) (fun _ kk => XS.aload X301.here hx rfl (hb hby dvi_28) rfl rfl kk) ?_
  obtain ⟨sa312, T312, h312, k312, X312, e312, E312, hS312, hk312, hZ312, ho312, st312⟩ := ldcS X301 hx hZ270 ho270 (w66 hw) (own_strAtoms hw) e301 hS270 F308 (g := (mkF m 30 #[.val (.ref a1), .val (.ref x2), .val .null, .val .null, .val (.ref b5)] [(.ref b5), (.ref a1)])) rfl (hb hby dvi_30) (n := 28) (by decide) (by decide) (by decide) (by decide)
  have F313 := F303.ext E312
  have F314 := F304.ext E312
  have F315 := F305.ext E312
  have F316 := F306.ext E312
  have F317 := F307.ext E312
  have F318 := F311.ext E312
  have F319 := Nat.le_trans F308 E312.1
  have F320 := F309.ext E312
  have F321 := F310.ext E312
  refine own_step (T' := T312) (g' := (mkF m 32 #[.val (.ref a1), .val (.ref x2), .val .null, .val .null, .val (.ref b5)] [(.ref sa312), (.ref b5), (.ref a1)])) (fun _ kk => st312 _ kk) ?_
  obtain ⟨T323, L323, _, h323, X323, e323, ⟨rfl, Nq322, eh322⟩, st323⟩ := own_callS X312 hx hZ312 ho312 (w54 hw) (w55 hw) (w57 hw) (w56 hw) (by decide) (g := (mkF m 32 #[.val (.ref a1), .val (.ref x2), .val .null, .val .null, .val (.ref b5)] [(.ref sa312), (.ref b5), (.ref a1)])) rfl (by rw [hml]; rfl) (argsL := [(.ref b5), (.ref sa312)]) (rest := [(.ref a1)]) (rm_rn l Z a0 hw b5 sa312 _ F320) e312 pd__Ljava_lang_Object_Ljava_lang_String__Ljava_lang_Object_ rfl rfl (W := 1) (by show 2 * 0 + _ ≤ _; exact Nat.le_of_eq rfl) (hb hby dvi_32) (by decide) (by decide) (by decide) (by decide)
  have F324 := Fr.app F302 Nq322
  have F325 := e323.trans eh322
  refine own_step (T' := T323) (g' := (mkF m 35 #[.val (.ref a1), .val (.ref x2), .val .null, .val .null, .val (.ref b5)] [(.ref b5), (.ref a1)])) (fun _ kk => st323 _ kk) ?_
  obtain ⟨T326, X326, e326, st326⟩ := castY X323 hx hZ312 ho312 (w67 hw) F325 (Ins.self F315) (g := (mkF m 35 #[.val (.ref a1), .val (.ref x2), .val .null, .val .null, .val (.ref b5)] [(.ref b5), (.ref a1)])) rfl rfl (hb hby dvi_35)
  refine own_step (T' := T326) (g' := (mkF m 38 #[.val (.ref a1), .val (.ref x2), .val .null, .val .null, .val (.ref b5)] [(.ref b5), (.ref a1)])) (fun _ kk => st326 _ kk) ?_
  obtain ⟨u327, Fu327⟩ := F313.fld (w46 hw) (Or.inr (w69 hw) : Laid Z a0 "com/example/frugal_scheduler/frugalscheduler/plan/Violation" "com/example/frugal_scheduler/frugalscheduler/plan/Violation" "message" "Ljava/lang/String;")
  obtain ⟨T327, h327, X327, e327, W327, st327⟩ := putF X326 hx hZ312 ho312 (host := "") (Or.inl (w68 hw)) Via.refl e326 Fu327 F313.1 (Or.inr ⟨(w69 hw), rfl, hnm⟩) (w46 hw) (ty := (.object "java/lang/String")) (by decide) rfl rfl (g := (mkF m 38 #[.val (.ref a1), .val (.ref x2), .val .null, .val .null, .val (.ref b5)] [(.ref b5), (.ref a1)])) rfl rfl (hb hby dvi_38)
  have F328 := Fr.snoc X327 F324 g1
  have F329 := F313.wr W327
  have F330 := F314.wr W327
  have F331 := F315.wr W327
  have F332 := F316.other W327 (Or.inr (slot_ne (Or.inr (w61 hw) : Laid Z a0 "com/example/frugal_scheduler/frugalscheduler/plan/Violation" "com/example/frugal_scheduler/frugalscheduler/plan/Violation" "rule" "Lcom/example/frugal_scheduler/frugalscheduler/plan/Rule;") (Or.inr (w69 hw) : Laid Z a0 "com/example/frugal_scheduler/frugalscheduler/plan/Violation" "com/example/frugal_scheduler/frugalscheduler/plan/Violation" "message" "Ljava/lang/String;") (by decide) (t := (.object "com/example/frugal_scheduler/frugalscheduler/plan/Rule")) (t' := (.object "java/lang/String")) (by decide) (by decide)))
  have F333 := F317.other W327 (Or.inr (slot_ne (Or.inr (w63 hw) : Laid Z a0 "com/example/frugal_scheduler/frugalscheduler/plan/Violation" "com/example/frugal_scheduler/frugalscheduler/plan/Violation" "task" "Ljava/lang/String;") (Or.inr (w69 hw) : Laid Z a0 "com/example/frugal_scheduler/frugalscheduler/plan/Violation" "com/example/frugal_scheduler/frugalscheduler/plan/Violation" "message" "Ljava/lang/String;") (by decide) (t := (.object "java/lang/String")) (t' := (.object "java/lang/String")) (by decide) (by decide)))
  have F334 := F318.other W327 (Or.inr (slot_ne (Or.inr (w65 hw) : Laid Z a0 "com/example/frugal_scheduler/frugalscheduler/plan/Violation" "com/example/frugal_scheduler/frugalscheduler/plan/Violation" "vm" "Ljava/lang/String;") (Or.inr (w69 hw) : Laid Z a0 "com/example/frugal_scheduler/frugalscheduler/plan/Violation" "com/example/frugal_scheduler/frugalscheduler/plan/Violation" "message" "Ljava/lang/String;") (by decide) (t := (.object "java/lang/String")) (t' := (.object "java/lang/String")) (by decide) (by decide)))
  have F335 := (Nat.le_trans hk312 (Nat.le_of_eq (Wr.size W327).symm))
  have F336 := F320.wr W327 g1
  have F337 := F321.wr W327 (Or.inl (List.mem_of_getElem? (i := 0) rfl))
  have F338 : Fld Z h327 a1 "com/example/frugal_scheduler/frugalscheduler/plan/Violation" "message" "Ljava/lang/String;" (.ref b5) := Fu327.same W327
  refine own_step (T' := T327) (g' := (mkF m 41 #[.val (.ref a1), .val (.ref x2), .val .null, .val .null, .val (.ref b5)] [])) (fun _ kk => st327 _ kk) ?_
  exact own_retVW X327 hx hS312 F335 hlk hret (hb hby dvi_41) e327 ⟨rfl, F328, F337, F329, F332, F333, F334, F338⟩ (by decide) (by decide)
theorem dop_0 : decode prog_12_method_4_code 0 = .ok (.new 18, 3) := by decide +kernel
theorem dop_3 : decode prog_12_method_4_code 3 = .ok (.dup, 1) := by decide +kernel
theorem dop_4 : decode prog_12_method_4_code 4 = .ok (.aload_n 0, 1) := by decide +kernel
theorem dop_5 : decode prog_12_method_4_code 5 = .ok (.aconst_null, 1) := by decide +kernel
theorem dop_6 : decode prog_12_method_4_code 6 = .ok (.aconst_null, 1) := by decide +kernel
theorem dop_7 : decode prog_12_method_4_code 7 = .ok (.aload_n 1, 1) := by decide +kernel
theorem dop_8 : decode prog_12_method_4_code 8 = .ok (.invokespecial 36, 3) := by decide +kernel
theorem dop_11 : decode prog_12_method_4_code 11 = .ok (.areturn, 1) := by decide +kernel
set_option maxRecDepth 65536 in
set_option maxHeartbeats 40000000 in
theorem rm_op (l : Launch) (Z : State) (a0 : Array Value) (hw : ∀ d ∈ tables_1, d.before a0 Z = true) (x2 b5 : Addr) (h0 : Heap) (O0 : Old Z Z.heap.size h0) (E2 : Exa Z h0 x2 "com/example/frugal_scheduler/frugalscheduler/plan/Rule") (E5 : Exa Z h0 b5 "java/lang/String") :
    own_ConW l Z (fun _ => True) (⟨"com/example/frugal_scheduler/frugalscheduler/plan/Violation", "ofPlan", "(Lcom/example/frugal_scheduler/frugalscheduler/plan/Rule;Ljava/lang/String;)Lcom/example/frugal_scheduler/frugalscheduler/plan/Violation;"⟩ : MethodName) prog_12_method_4_code 2 (some (.object "com/example/frugal_scheduler/frugalscheduler/plan/Violation")) ({ frames := 2, cells := 5, slots := 56, locals := 31 } : Room) #[(.ref x2), (.ref b5)] h0 (fun v h L => ∃ a, v = some (.ref a) ∧ Fr Z.heap.size L ∧ Keep h0 h [] ∧ own_Obj Z h a "com/example/frugal_scheduler/frugalscheduler/plan/Violation" ∧ Fld Z h a "com/example/frugal_scheduler/frugalscheduler/plan/Violation" "rule" "Lcom/example/frugal_scheduler/frugalscheduler/plan/Rule;" (.ref x2) ∧ Fld Z h a "com/example/frugal_scheduler/frugalscheduler/plan/Violation" "task" "Ljava/lang/String;" .null ∧ Fld Z h a "com/example/frugal_scheduler/frugalscheduler/plan/Violation" "vm" "Ljava/lang/String;" .null ∧ Fld Z h a "com/example/frugal_scheduler/frugalscheduler/plan/Violation" "message" "Ljava/lang/String;" (.ref b5)) := by
  refine own_conW (ls := #[.val (.ref x2), .val (.ref b5)]) (pn_com_example_frugal_scheduler_frugalscheduler_plan_Violation) (fun m => by first | (simp [entryFrame, mkF, argsToLocals, Value.category]; done) | rfl) ?_
  intro p e s m below meth c s₁ hx hby hml0 hown0 hnm0 hret0 hlk hZ X0 e0 hS0 hJ
  have hml : c.maxLocals = 2 := hml0
  have hown : s.vm.findClass "com/example/frugal_scheduler/frugalscheduler/plan/Violation" = some m.cls := hown0
  have hnm : meth.name = "ofPlan" := hnm0
  have hret : meth.sig.returnType = (some (.object "com/example/frugal_scheduler/frugalscheduler/plan/Violation")) := hret0
  have F339 := Fr.nil Z.heap.size
  have F340 := Keep.refl h0 []
  obtain ⟨T342, h342, X342, e342, E342, A342, D342, U342, st342⟩ := newO X0 hx hZ hown (w45 hw) (w46 hw) (w43 hw) e0 (g := (mkF m 0 #[.val (.ref x2), .val (.ref b5)] [])) rfl (hb hby dop_0) (by decide) (by decide)
  obtain ⟨a341, g342⟩ : ∃ z, z = h0.size := ⟨_, rfl⟩
  rw [← g342] at A342 D342 U342 st342
  have ne343 : x2 ≠ a341 := Nat.ne_of_lt (by rw [g342]; exact E2.lt)
  have ne344 : b5 ≠ a341 := Nat.ne_of_lt (by rw [g342]; exact E5.lt)
  have ge345 : Z.heap.size ≤ a341 := by rw [g342]; exact O0.2.1
  have ng346 : h0.size ≤ a341 := by rw [g342]; exact F340.1
  have F347 := E2.ext E342
  have F348 := E5.ext E342
  have F349 := Nat.le_trans (Nat.zero_le _) E342.1
  have F350 := O0.ext E342
  have F351 := F340.ext E342
  have F352 : own_Obj Z h342 a341 "com/example/frugal_scheduler/frugalscheduler/plan/Violation" := own_Obj.new A342 U342
  refine own_step (T' := T342) (g' := (mkF m 3 #[.val (.ref x2), .val (.ref b5)] [(.ref a341)])) (fun _ kk => st342 _ kk) ?_
  refine own_step (T' := T342) (g' := (mkF m 4 #[.val (.ref x2), .val (.ref b5)] [(.ref a341), (.ref a341)])) (fun _ kk => XS.dup X342.here hx rfl (hb hby dop_3) rfl rfl kk) ?_
  refine own_step (T' := T342) (g' := (mkF m 5 #[.val (.ref x2), .val (.ref b5)] [(.ref x2), (.ref a341), (.ref a341)])) (fun _ kk => XS.aloadN X342.here hx rfl (hb hby dop_4) rfl rfl kk) ?_
  refine own_step (T' := T342) (g' := (mkF m 6 #[.val (.ref x2), .val (.ref b5)] [.null, (.ref x2), (.ref a341), (.ref a341)])) (fun _ kk => XS.aconstNull X342.here hx rfl (hb hby dop_5) kk) ?_
  refine own_step (T' := T342) (g' := (mkF m 7 #[.val (.ref x2), .val (.ref b5)] [.null, .null, (.ref x2), (.ref a341), (.ref a341)])) (fun _ kk => XS.aconstNull X342.here hx rfl (hb hby dop_6) kk) ?_
  refine own_step (T' := T342) (g' := (mkF m 8 #[.val (.ref x2), .val (.ref b5)] [(.ref b5), .null, .null, (.ref x2), (.ref a341), (.ref a341)])) (fun _ kk => XS.aloadN X342.here hx rfl (hb hby dop_7) rfl rfl kk) ?_
  obtain ⟨T353, L353, _, h353, X353, e353, hS353, hZ353, ho353, ⟨rfl, Nq, Kq, Oq, F1, F2, F3, F4⟩, st353⟩ := own_callCW X342 hx hZ hown hS0 F349 rfl (w47 hw) (w48 hw) (w49 hw) (w43 hw) (by decide) (a := a341) (g := (mkF m 8 #[.val (.ref x2), .val (.ref b5)] [(.ref b5), .null, .null, (.ref x2), (.ref a341), (.ref a341)])) rfl (by rw [hml]; rfl) (argsL := [(.ref x2), .null, .null, (.ref b5)]) (rest := [(.ref a341)]) (rm_vi l Z a0 hw a341 x2 b5 _ F350 F352 ge345 F347 F348) (fun _ _ _ _ _ => trivial) e342 pd__Lcom_example_frugal_scheduler_frugalscheduler_plan_Rule_Ljava_lang_String_Ljava_lang_String_Ljava_lang_String__V rfl rfl (W := 1) (by show 2 * 0 + _ ≤ _; exact Nat.le_of_eq rfl) (hb hby dop_8) (by decide) (by decide) (by decide) (by decide)
  have F354 := Fr.app F339 Nq
  have F355 := F347.keep Kq
  have F356 := F348.keep Kq
  have F357 := F352.keep Kq
  have F358 := Nat.le_trans F349 Kq.1
  have F359 := F350.keep Kq (allS ge345 all0)
  have F360 := F351.trans Kq (allS (Or.inr ng346) all0)
  refine own_step (T' := T353) (g' := (mkF m 11 #[.val (.ref x2), .val (.ref b5)] [(.ref a341)])) (fun _ kk => st353 _ kk) ?_
  exact own_retAW X353 hx hS353 (Nat.le_refl _) hlk (t := (.object "com/example/frugal_scheduler/frugalscheduler/plan/Violation")) hret rfl rfl rfl (hb hby dop_11) e353 ⟨_, rfl, F354, F360, Oq, F1, F2, F3, F4⟩ (by decide) (by decide)
theorem dgr_0 : decode prog_12_method_5_code 0 = .ok (.aload_n 0, 1) := by decide +kernel
theorem dgr_1 : decode prog_12_method_5_code 1 = .ok (.getfield 17, 3) := by decide +kernel
theorem dgr_4 : decode prog_12_method_5_code 4 = .ok (.areturn, 1) := by decide +kernel
set_option maxRecDepth 65536 in
set_option maxHeartbeats 40000000 in
theorem rm_gr (l : Launch) (Z : State) (a0 : Array Value) (hw : ∀ d ∈ tables_1, d.before a0 Z = true) (a1 x2 : Addr) (h0 : Heap) (O0 : Old Z Z.heap.size h0) (F1 : Fld Z h0 a1 "com/example/frugal_scheduler/frugalscheduler/plan/Violation" "rule" "Lcom/example/frugal_scheduler/frugalscheduler/plan/Rule;" (.ref x2)) :
    own_Con l Z (⟨"com/example/frugal_scheduler/frugalscheduler/plan/Violation", "getRule", "()Lcom/example/frugal_scheduler/frugalscheduler/plan/Rule;"⟩ : MethodName) prog_12_method_5_code 1 (some (.object "com/example/frugal_scheduler/frugalscheduler/plan/Rule")) ({ frames := 0, cells := 0, slots := 0, locals := 0 } : Room) #[(.ref a1)] h0 (fun v h L => v = some (.ref x2) ∧ Fr Z.heap.size L ∧ h = h0) := by
  refine own_con (ls := #[.val (.ref a1)]) (pn_com_example_frugal_scheduler_frugalscheduler_plan_Violation) (fun m => by first | (simp [entryFrame, mkF, argsToLocals, Value.category]; done) | rfl) ?_
  intro p e s m below meth c s₁ hx hby hml0 hown0 hnm0 hret0 hlk hZ X0 e0
  have hml : c.maxLocals = 1 := hml0
  have hown : s.vm.findClass "com/example/frugal_scheduler/frugalscheduler/plan/Violation" = some m.cls := hown0
  have hnm : meth.name = "getRule" := hnm0
  have hret : meth.sig.returnType = (some (.object "com/example/frugal_scheduler/frugalscheduler/plan/Rule")) := hret0
  have F361 := Fr.nil Z.heap.size
  have F362 := Keep.refl h0 []
  refine own_step (T' := s₁) (g' := (mkF m 1 #[.val (.ref a1)] [(.ref a1)])) (fun _ kk => XS.aloadN X0.here hx rfl (hb hby dgr_0) rfl rfl kk) ?_
  obtain ⟨T363, X363, e363, st363⟩ := getF X0 hx hZ hown (host := "") (Or.inl (w60 hw)) Via.refl e0 F1 (g := (mkF m 1 #[.val (.ref a1)] [(.ref a1)])) rfl rfl (hb hby dgr_1)
  refine own_step (T' := T363) (g' := (mkF m 4 #[.val (.ref a1)] [(.ref x2)])) (fun _ kk => st363 _ kk) ?_
  exact own_retA X363 hx hlk (t := (.object "com/example/frugal_scheduler/frugalscheduler/plan/Rule")) hret rfl rfl rfl (hb hby dgr_4) e363 ⟨rfl, F361, rfl⟩ (by decide) (by decide)
theorem dgm_0 : decode prog_12_method_8_code 0 = .ok (.aload_n 0, 1) := by decide +kernel
theorem dgm_1 : decode prog_12_method_8_code 1 = .ok (.getfield 33, 3) := by decide +kernel
theorem dgm_4 : decode prog_12_method_8_code 4 = .ok (.areturn, 1) := by decide +kernel
set_option maxRecDepth 65536 in
set_option maxHeartbeats 40000000 in
theorem rm_gm (l : Launch) (Z : State) (a0 : Array Value) (hw : ∀ d ∈ tables_1, d.before a0 Z = true) (a1 x2 : Addr) (h0 : Heap) (O0 : Old Z Z.heap.size h0) (F1 : Fld Z h0 a1 "com/example/frugal_scheduler/frugalscheduler/plan/Violation" "message" "Ljava/lang/String;" (.ref x2)) :
    own_Con l Z (⟨"com/example/frugal_scheduler/frugalscheduler/plan/Violation", "getMessage", "()Ljava/lang/String;"⟩ : MethodName) prog_12_method_8_code 1 (some (.object "java/lang/String")) ({ frames := 0, cells := 0, slots := 0, locals := 0 } : Room) #[(.ref a1)] h0 (fun v h L => v = some (.ref x2) ∧ Fr Z.heap.size L ∧ h = h0) := by
  refine own_con (ls := #[.val (.ref a1)]) (pn_com_example_frugal_scheduler_frugalscheduler_plan_Violation) (fun m => by first | (simp [entryFrame, mkF, argsToLocals, Value.category]; done) | rfl) ?_
  intro p e s m below meth c s₁ hx hby hml0 hown0 hnm0 hret0 hlk hZ X0 e0
  have hml : c.maxLocals = 1 := hml0
  have hown : s.vm.findClass "com/example/frugal_scheduler/frugalscheduler/plan/Violation" = some m.cls := hown0
  have hnm : meth.name = "getMessage" := hnm0
  have hret : meth.sig.returnType = (some (.object "java/lang/String")) := hret0
  have F364 := Fr.nil Z.heap.size
  have F365 := Keep.refl h0 []
  refine own_step (T' := s₁) (g' := (mkF m 1 #[.val (.ref a1)] [(.ref a1)])) (fun _ kk => XS.aloadN X0.here hx rfl (hb hby dgm_0) rfl rfl kk) ?_
  obtain ⟨T366, X366, e366, st366⟩ := getF X0 hx hZ hown (host := "") (Or.inl (w68 hw)) Via.refl e0 F1 (g := (mkF m 1 #[.val (.ref a1)] [(.ref a1)])) rfl rfl (hb hby dgm_1)
  refine own_step (T' := T366) (g' := (mkF m 4 #[.val (.ref a1)] [(.ref x2)])) (fun _ kk => st366 _ kk) ?_
  exact own_retA X366 hx hlk (t := (.object "java/lang/String")) hret rfl rfl rfl (hb hby dgm_4) e366 ⟨rfl, F364, rfl⟩ (by decide) (by decide)
theorem deq_0 : decode jdk_42_method_66_code 0 = .ok (.aload_n 0, 1) := by decide +kernel
theorem deq_1 : decode jdk_42_method_66_code 1 = .ok (.aload_n 1, 1) := by decide +kernel
theorem deq_2 : decode jdk_42_method_66_code 2 = .ok (.if_acmp .ne 5, 3) := by decide +kernel
theorem deq_5 : decode jdk_42_method_66_code 5 = .ok (.iconst 1, 1) := by decide +kernel
theorem deq_6 : decode jdk_42_method_66_code 6 = .ok (.ireturn, 1) := by decide +kernel
theorem deq_7 : decode jdk_42_method_66_code 7 = .ok (.aload_n 1, 1) := by decide +kernel
theorem deq_8 : decode jdk_42_method_66_code 8 = .ok (.instanceof 10, 3) := by decide +kernel
theorem deq_11 : decode jdk_42_method_66_code 11 = .ok (.ifCond .eq 43, 3) := by decide +kernel
theorem deq_14 : decode jdk_42_method_66_code 14 = .ok (.aload_n 1, 1) := by decide +kernel
theorem deq_15 : decode jdk_42_method_66_code 15 = .ok (.checkcast 10, 3) := by decide +kernel
theorem deq_18 : decode jdk_42_method_66_code 18 = .ok (.astore_n 2, 1) := by decide +kernel
theorem deq_19 : decode jdk_42_method_66_code 19 = .ok (.getstatic 38, 3) := by decide +kernel
theorem deq_22 : decode jdk_42_method_66_code 22 = .ok (.ifCond .eq 14, 3) := by decide +kernel
theorem deq_25 : decode jdk_42_method_66_code 25 = .ok (.aload_n 0, 1) := by decide +kernel
theorem deq_26 : decode jdk_42_method_66_code 26 = .ok (.getfield 15, 3) := by decide +kernel
theorem deq_29 : decode jdk_42_method_66_code 29 = .ok (.aload_n 2, 1) := by decide +kernel
theorem deq_30 : decode jdk_42_method_66_code 30 = .ok (.getfield 15, 3) := by decide +kernel
theorem deq_33 : decode jdk_42_method_66_code 33 = .ok (.if_icmp .ne 21, 3) := by decide +kernel
theorem deq_36 : decode jdk_42_method_66_code 36 = .ok (.aload_n 0, 1) := by decide +kernel
theorem deq_37 : decode jdk_42_method_66_code 37 = .ok (.getfield 9, 3) := by decide +kernel
theorem deq_40 : decode jdk_42_method_66_code 40 = .ok (.aload_n 2, 1) := by decide +kernel
theorem deq_41 : decode jdk_42_method_66_code 41 = .ok (.getfield 9, 3) := by decide +kernel
theorem deq_44 : decode jdk_42_method_66_code 44 = .ok (.invokestatic 541, 3) := by decide +kernel
theorem deq_47 : decode jdk_42_method_66_code 47 = .ok (.ifCond .eq 7, 3) := by decide +kernel
theorem deq_50 : decode jdk_42_method_66_code 50 = .ok (.iconst 1, 1) := by decide +kernel
theorem deq_51 : decode jdk_42_method_66_code 51 = .ok (.goto 4, 3) := by decide +kernel
theorem deq_54 : decode jdk_42_method_66_code 54 = .ok (.iconst 0, 1) := by decide +kernel
theorem deq_55 : decode jdk_42_method_66_code 55 = .ok (.ireturn, 1) := by decide +kernel
set_option maxRecDepth 65536 in
set_option maxHeartbeats 40000000 in
theorem rm_eq (l : Launch) (Z : State) (a0 : Array Value) (hw : ∀ d ∈ tables_1, d.before a0 Z = true) (a1 : Addr) (h0 : Heap) (O0 : Old Z Z.heap.size h0)  :
    own_Con l Z (⟨"java/lang/String", "equals", "(Ljava/lang/Object;)Z"⟩ : MethodName) jdk_42_method_66_code 3 (some .boolean) ({ frames := 0, cells := 0, slots := 0, locals := 0 } : Room) #[(.ref a1), (.ref a1)] h0 (fun v h L => v = some (.int (1 : Int32)) ∧ Fr Z.heap.size L ∧ h = h0) := by
  refine own_con (ls := #[.val (.ref a1), .val (.ref a1), .unset]) (pn_java_lang_String) (fun m => by first | (simp [entryFrame, mkF, argsToLocals, Value.category]; done) | rfl) ?_
  intro p e s m below meth c s₁ hx hby hml0 hown0 hnm0 hret0 hlk hZ X0 e0
  have hml : c.maxLocals = 3 := hml0
  have hown : s.vm.findClass "java/lang/String" = some m.cls := hown0
  have hnm : meth.name = "equals" := hnm0
  have hret : meth.sig.returnType = (some .boolean) := hret0
  have F367 := Fr.nil Z.heap.size
  have F368 := Keep.refl h0 []
  refine own_step (T' := s₁) (g' := (mkF m 1 #[.val (.ref a1), .val (.ref a1), .unset] [(.ref a1)])) (fun _ kk => XS.aloadN X0.here hx rfl (hb hby deq_0) rfl rfl kk) ?_
  refine own_step (T' := s₁) (g' := (mkF m 2 #[.val (.ref a1), .val (.ref a1), .unset] [(.ref a1), (.ref a1)])) (fun _ kk => XS.aloadN X0.here hx rfl (hb hby deq_1) rfl rfl kk) ?_
  refine own_step (T' := s₁) (g' := (mkF m 5 #[.val (.ref a1), .val (.ref a1), .unset] [])) (fun _ kk => acmp X0 hx rfl rfl rfl (pc0 := 2) (pc' := 5) rfl (hb hby deq_2) rfl (same := true) (by simp) (by decide) rfl kk) ?_
  refine own_step (T' := s₁) (g' := (mkF m 6 #[.val (.ref a1), .val (.ref a1), .unset] [(.int (1 : Int32))])) (fun _ kk => XS.iconst X0.here hx rfl (hb hby deq_5) kk) ?_
  exact own_retN X0 hx hlk (t := .boolean) hret (by simp) (hb hby deq_6) e0 ⟨rfl, F367, rfl⟩ (by decide) (by decide)
theorem don_0 : decode jdk_32_method_4_code 0 = .ok (.aload_n 0, 1) := by decide +kernel
theorem don_1 : decode jdk_32_method_4_code 1 = .ok (.ifnonnull 9, 3) := by decide +kernel
theorem don_4 : decode jdk_32_method_4_code 4 = .ok (.getstatic 1, 3) := by decide +kernel
theorem don_7 : decode jdk_32_method_4_code 7 = .ok (.goto 11, 3) := by decide +kernel
theorem don_10 : decode jdk_32_method_4_code 10 = .ok (.new 2, 3) := by decide +kernel
theorem don_13 : decode jdk_32_method_4_code 13 = .ok (.dup, 1) := by decide +kernel
theorem don_14 : decode jdk_32_method_4_code 14 = .ok (.aload_n 0, 1) := by decide +kernel
theorem don_15 : decode jdk_32_method_4_code 15 = .ok (.invokespecial 23, 3) := by decide +kernel
theorem don_18 : decode jdk_32_method_4_code 18 = .ok (.areturn, 1) := by decide +kernel
set_option maxRecDepth 65536 in
set_option maxHeartbeats 40000000 in
theorem rm_on (l : Launch) (Z : State) (a0 : Array Value) (hw : ∀ d ∈ tables_1, d.before a0 Z = true) (em : Addr) (h0 : Heap) (O0 : Old Z Z.heap.size h0) (SE : Sta Z Z.heap "java/util/Optional" "EMPTY" "Ljava/util/Optional;" (.ref em)) :
    own_Con l Z (⟨"java/util/Optional", "ofNullable", "(Ljava/lang/Object;)Ljava/util/Optional;"⟩ : MethodName) jdk_32_method_4_code 1 (some (.object "java/util/Optional")) ({ frames := 0, cells := 0, slots := 0, locals := 0 } : Room) #[.null] h0 (fun v h L => v = some (.ref em) ∧ Fr Z.heap.size L ∧ h = h0) := by
  refine own_con (ls := #[.val .null]) (pn_java_util_Optional) (fun m => by first | (simp [entryFrame, mkF, argsToLocals, Value.category]; done) | rfl) ?_
  intro p e s m below meth c s₁ hx hby hml0 hown0 hnm0 hret0 hlk hZ X0 e0
  have hml : c.maxLocals = 1 := hml0
  have hown : s.vm.findClass "java/util/Optional" = some m.cls := hown0
  have hnm : meth.name = "ofNullable" := hnm0
  have hret : meth.sig.returnType = (some (.object "java/util/Optional")) := hret0
  have F369 := Fr.nil Z.heap.size
  have F370 := Keep.refl h0 []
  refine own_step (T' := s₁) (g' := (mkF m 1 #[.val .null] [.null])) (fun _ kk => XS.aloadN X0.here hx rfl (hb hby don_0) rfl rfl kk) ?_
  refine own_step (T' := s₁) (g' := (mkF m 4 #[.val .null] [])) (fun _ kk => XS.ifnonnullNo X0.here hx rfl (hb hby don_1) rfl kk) ?_
  obtain ⟨T371, X371, e371, st371⟩ := getS (host := "") X0 hx hZ hown (w94 hw) Via.refl e0 (SE.ext O0.2) (g := (mkF m 4 #[.val .null] [])) rfl (hb hby don_4)
  refine own_step (T' := T371) (g' := (mkF m 7 #[.val .null] [(.ref em)])) (fun _ kk => st371 _ kk) ?_
  refine own_step (T' := T371) (g' := (mkF m 18 #[.val .null] [(.ref em)])) (fun _ kk => XS.goto X371.here hx rfl (pc0 := 7) (pc' := 18) rfl (hb hby don_7) (by decide) (by decide) kk) ?_
  exact own_retA X371 hx hlk (t := (.object "java/util/Optional")) hret rfl rfl rfl (hb hby don_18) e371 ⟨rfl, F369, rfl⟩ (by decide) (by decide)
theorem dgt_0 : decode prog_12_method_6_code 0 = .ok (.aload_n 0, 1) := by decide +kernel
theorem dgt_1 : decode prog_12_method_6_code 1 = .ok (.getfield 22, 3) := by decide +kernel
theorem dgt_4 : decode prog_12_method_6_code 4 = .ok (.invokestatic 40, 3) := by decide +kernel
theorem dgt_7 : decode prog_12_method_6_code 7 = .ok (.areturn, 1) := by decide +kernel
set_option maxRecDepth 65536 in
set_option maxHeartbeats 40000000 in
theorem rm_gt (l : Launch) (Z : State) (a0 : Array Value) (hw : ∀ d ∈ tables_1, d.before a0 Z = true) (a1 em : Addr) (h0 : Heap) (O0 : Old Z Z.heap.size h0) (SE : Sta Z Z.heap "java/util/Optional" "EMPTY" "Ljava/util/Optional;" (.ref em)) (F1 : Fld Z h0 a1 "com/example/frugal_scheduler/frugalscheduler/plan/Violation" "task" "Ljava/lang/String;" .null) :
    own_Con l Z (⟨"com/example/frugal_scheduler/frugalscheduler/plan/Violation", "getTask", "()Ljava/util/Optional;"⟩ : MethodName) prog_12_method_6_code 1 (some (.object "java/util/Optional")) ({ frames := 1, cells := 0, slots := 0, locals := 12 } : Room) #[(.ref a1)] h0 (fun v h L => v = some (.ref em) ∧ Fr Z.heap.size L ∧ h = h0) := by
  refine own_con (ls := #[.val (.ref a1)]) (pn_com_example_frugal_scheduler_frugalscheduler_plan_Violation) (fun m => by first | (simp [entryFrame, mkF, argsToLocals, Value.category]; done) | rfl) ?_
  intro p e s m below meth c s₁ hx hby hml0 hown0 hnm0 hret0 hlk hZ X0 e0
  have hml : c.maxLocals = 1 := hml0
  have hown : s.vm.findClass "com/example/frugal_scheduler/frugalscheduler/plan/Violation" = some m.cls := hown0
  have hnm : meth.name = "getTask" := hnm0
  have hret : meth.sig.returnType = (some (.object "java/util/Optional")) := hret0
  have F372 := Fr.nil Z.heap.size
  have F373 := Keep.refl h0 []
  refine own_step (T' := s₁) (g' := (mkF m 1 #[.val (.ref a1)] [(.ref a1)])) (fun _ kk => XS.aloadN X0.here hx rfl (hb hby dgt_0) rfl rfl kk) ?_
  obtain ⟨T374, X374, e374, st374⟩ := getF X0 hx hZ hown (host := "") (Or.inl (w62 hw)) Via.refl e0 F1 (g := (mkF m 1 #[.val (.ref a1)] [(.ref a1)])) rfl rfl (hb hby dgt_1)
  refine own_step (T' := T374) (g' := (mkF m 4 #[.val (.ref a1)] [.null])) (fun _ kk => st374 _ kk) ?_
  obtain ⟨T376, L376, _, h376, X376, e376, ⟨rfl, Nq375, eh375⟩, st376⟩ := own_callS X374 hx hZ hown (w90 hw) (w91 hw) (w93 hw) (w92 hw) (by decide) (g := (mkF m 4 #[.val (.ref a1)] [.null])) rfl (by rw [hml]; rfl) (argsL := [.null]) (rest := []) (rm_on l Z a0 hw em _ O0 SE) e374 pd__Ljava_lang_Object__Ljava_util_Optional_ rfl rfl (W := 0) (by show 2 * 0 + _ ≤ _; exact Nat.le_of_eq rfl) (hb hby dgt_4) (by decide) (by decide) (by decide) (by decide)
  have F377 := Fr.app F372 Nq375
  have F378 := e376.trans eh375
  refine own_step (T' := T376) (g' := (mkF m 7 #[.val (.ref a1)] [(.ref em)])) (fun _ kk => st376 _ kk) ?_
  exact own_retA X376 hx hlk (t := (.object "java/util/Optional")) hret rfl rfl rfl (hb hby dgt_7) F378 ⟨rfl, F377, rfl⟩ (by decide) (by decide)
theorem dgv_0 : decode prog_12_method_7_code 0 = .ok (.aload_n 0, 1) := by decide +kernel
theorem dgv_1 : decode prog_12_method_7_code 1 = .ok (.getfield 26, 3) := by decide +kernel
theorem dgv_4 : decode prog_12_method_7_code 4 = .ok (.invokestatic 40, 3) := by decide +kernel
theorem dgv_7 : decode prog_12_method_7_code 7 = .ok (.areturn, 1) := by decide +kernel
set_option maxRecDepth 65536 in
set_option maxHeartbeats 40000000 in
theorem rm_gv (l : Launch) (Z : State) (a0 : Array Value) (hw : ∀ d ∈ tables_1, d.before a0 Z = true) (a1 em : Addr) (h0 : Heap) (O0 : Old Z Z.heap.size h0) (SE : Sta Z Z.heap "java/util/Optional" "EMPTY" "Ljava/util/Optional;" (.ref em)) (F1 : Fld Z h0 a1 "com/example/frugal_scheduler/frugalscheduler/plan/Violation" "vm" "Ljava/lang/String;" .null) :
    own_Con l Z (⟨"com/example/frugal_scheduler/frugalscheduler/plan/Violation", "getVm", "()Ljava/util/Optional;"⟩ : MethodName) prog_12_method_7_code 1 (some (.object "java/util/Optional")) ({ frames := 1, cells := 0, slots := 0, locals := 12 } : Room) #[(.ref a1)] h0 (fun v h L => v = some (.ref em) ∧ Fr Z.heap.size L ∧ h = h0) := by
  refine own_con (ls := #[.val (.ref a1)]) (pn_com_example_frugal_scheduler_frugalscheduler_plan_Violation) (fun m => by first | (simp [entryFrame, mkF, argsToLocals, Value.category]; done) | rfl) ?_
  intro p e s m below meth c s₁ hx hby hml0 hown0 hnm0 hret0 hlk hZ X0 e0
  have hml : c.maxLocals = 1 := hml0
  have hown : s.vm.findClass "com/example/frugal_scheduler/frugalscheduler/plan/Violation" = some m.cls := hown0
  have hnm : meth.name = "getVm" := hnm0
  have hret : meth.sig.returnType = (some (.object "java/util/Optional")) := hret0
  have F379 := Fr.nil Z.heap.size
  have F380 := Keep.refl h0 []
  refine own_step (T' := s₁) (g' := (mkF m 1 #[.val (.ref a1)] [(.ref a1)])) (fun _ kk => XS.aloadN X0.here hx rfl (hb hby dgv_0) rfl rfl kk) ?_
  obtain ⟨T381, X381, e381, st381⟩ := getF X0 hx hZ hown (host := "") (Or.inl (w64 hw)) Via.refl e0 F1 (g := (mkF m 1 #[.val (.ref a1)] [(.ref a1)])) rfl rfl (hb hby dgv_1)
  refine own_step (T' := T381) (g' := (mkF m 4 #[.val (.ref a1)] [.null])) (fun _ kk => st381 _ kk) ?_
  obtain ⟨T383, L383, _, h383, X383, e383, ⟨rfl, Nq382, eh382⟩, st383⟩ := own_callS X381 hx hZ hown (w90 hw) (w91 hw) (w93 hw) (w92 hw) (by decide) (g := (mkF m 4 #[.val (.ref a1)] [.null])) rfl (by rw [hml]; rfl) (argsL := [.null]) (rest := []) (rm_on l Z a0 hw em _ O0 SE) e381 pd__Ljava_lang_Object__Ljava_util_Optional_ rfl rfl (W := 0) (by show 2 * 0 + _ ≤ _; exact Nat.le_of_eq rfl) (hb hby dgv_4) (by decide) (by decide) (by decide) (by decide)
  have F384 := Fr.app F379 Nq382
  have F385 := e383.trans eh382
  refine own_step (T' := T383) (g' := (mkF m 7 #[.val (.ref a1)] [(.ref em)])) (fun _ kk => st383 _ kk) ?_
  exact own_retA X383 hx hlk (t := (.object "java/util/Optional")) hret rfl rfl rfl (hb hby dgv_7) F385 ⟨rfl, F384, rfl⟩ (by decide) (by decide)
theorem dip_0 : decode jdk_32_method_6_code 0 = .ok (.aload_n 0, 1) := by decide +kernel
theorem dip_1 : decode jdk_32_method_6_code 1 = .ok (.getfield 13, 3) := by decide +kernel
theorem dip_4 : decode jdk_32_method_6_code 4 = .ok (.ifnull 7, 3) := by decide +kernel
theorem dip_7 : decode jdk_32_method_6_code 7 = .ok (.iconst 1, 1) := by decide +kernel
theorem dip_8 : decode jdk_32_method_6_code 8 = .ok (.goto 4, 3) := by decide +kernel
theorem dip_11 : decode jdk_32_method_6_code 11 = .ok (.iconst 0, 1) := by decide +kernel
theorem dip_12 : decode jdk_32_method_6_code 12 = .ok (.ireturn, 1) := by decide +kernel
set_option maxRecDepth 65536 in
set_option maxHeartbeats 40000000 in
theorem rm_ip (l : Launch) (Z : State) (a0 : Array Value) (hw : ∀ d ∈ tables_1, d.before a0 Z = true) (a1 : Addr) (h0 : Heap) (O0 : Old Z Z.heap.size h0) (F1 : Fld Z h0 a1 "java/util/Optional" "value" "Ljava/lang/Object;" .null) :
    own_Con l Z (⟨"java/util/Optional", "isPresent", "()Z"⟩ : MethodName) jdk_32_method_6_code 1 (some .boolean) ({ frames := 0, cells := 0, slots := 0, locals := 0 } : Room) #[(.ref a1)] h0 (fun v h L => v = some (.int (0 : Int32)) ∧ Fr Z.heap.size L ∧ h = h0) := by
  refine own_con (ls := #[.val (.ref a1)]) (pn_java_util_Optional) (fun m => by first | (simp [entryFrame, mkF, argsToLocals, Value.category]; done) | rfl) ?_
  intro p e s m below meth c s₁ hx hby hml0 hown0 hnm0 hret0 hlk hZ X0 e0
  have hml : c.maxLocals = 1 := hml0
  have hown : s.vm.findClass "java/util/Optional" = some m.cls := hown0
  have hnm : meth.name = "isPresent" := hnm0
  have hret : meth.sig.returnType = (some .boolean) := hret0
  have F386 := Fr.nil Z.heap.size
  have F387 := Keep.refl h0 []
  refine own_step (T' := s₁) (g' := (mkF m 1 #[.val (.ref a1)] [(.ref a1)])) (fun _ kk => XS.aloadN X0.here hx rfl (hb hby dip_0) rfl rfl kk) ?_
  obtain ⟨T388, X388, e388, st388⟩ := getF X0 hx hZ hown (host := "") (Or.inl (w100 hw)) Via.refl e0 F1 (g := (mkF m 1 #[.val (.ref a1)] [(.ref a1)])) rfl rfl (hb hby dip_1)
  refine own_step (T' := T388) (g' := (mkF m 4 #[.val (.ref a1)] [.null])) (fun _ kk => st388 _ kk) ?_
  refine own_step (T' := T388) (g' := (mkF m 11 #[.val (.ref a1)] [])) (fun _ kk => XS.ifnullYes X388.here hx rfl (pc0 := 4) (pc' := 11) rfl (hb hby dip_4) rfl (by decide) (by decide) kk) ?_
  refine own_step (T' := T388) (g' := (mkF m 12 #[.val (.ref a1)] [(.int (0 : Int32))])) (fun _ kk => XS.iconst X388.here hx rfl (hb hby dip_11) kk) ?_
  exact own_retN X388 hx hlk (t := .boolean) hret (by simp) (hb hby dip_12) e388 ⟨rfl, F386, rfl⟩ (by decide) (by decide)
set_option maxRecDepth 65536 in
set_option maxHeartbeats 40000000 in
theorem rm_law (l : Launch) (Z : State) (a0 : Array Value) (hw : ∀ d ∈ tables_1, d.before a0 Z = true) (p0 p1 p2 zc : Int32) (o0 o1 o2 o3 o4 o5 o6 o7 o8 o9 o10 o11 : Addr) (em : Addr) (h0 : Heap) (O0 : Old Z Z.heap.size h0) (S0 : Sta Z Z.heap "com/example/frugal_scheduler/frugalscheduler/plan/Rule" "TASK_MISSING" "Lcom/example/frugal_scheduler/frugalscheduler/plan/Rule;" (.ref o0)) (S1 : Sta Z Z.heap "com/example/frugal_scheduler/frugalscheduler/plan/Rule" "TASK_DUPLICATE" "Lcom/example/frugal_scheduler/frugalscheduler/plan/Rule;" (.ref o1)) (S2 : Sta Z Z.heap "com/example/frugal_scheduler/frugalscheduler/plan/Rule" "UNKNOWN_TASK" "Lcom/example/frugal_scheduler/frugalscheduler/plan/Rule;" (.ref o2)) (S3 : Sta Z Z.heap "com/example/frugal_scheduler/frugalscheduler/plan/Rule" "UNKNOWN_VM" "Lcom/example/frugal_scheduler/frugalscheduler/plan/Rule;" (.ref o3)) (S4 : Sta Z Z.heap "com/example/frugal_scheduler/frugalscheduler/plan/Rule" "UNKNOWN_TYPE" "Lcom/example/frugal_scheduler/frugalscheduler/plan/Rule;" (.ref o4)) (S5 : Sta Z Z.heap "com/example/frugal_scheduler/frugalscheduler/plan/Rule" "BEFORE_READY" "Lcom/example/frugal_scheduler/frugalscheduler/plan/Rule;" (.ref o5)) (S6 : Sta Z Z.heap "com/example/frugal_scheduler/frugalscheduler/plan/Rule" "PRECEDENCE" "Lcom/example/frugal_scheduler/frugalscheduler/plan/Rule;" (.ref o6)) (S7 : Sta Z Z.heap "com/example/frugal_scheduler/frugalscheduler/plan/Rule" "DURATION" "Lcom/example/frugal_scheduler/frugalscheduler/plan/Rule;" (.ref o7)) (S8 : Sta Z Z.heap "com/example/frugal_scheduler/frugalscheduler/plan/Rule" "OVERLAP" "Lcom/example/frugal_scheduler/frugalscheduler/plan/Rule;" (.ref o8)) (S9 : Sta Z Z.heap "com/example/frugal_scheduler/frugalscheduler/plan/Rule" "RELEASE_EARLY" "Lcom/example/frugal_scheduler/frugalscheduler/plan/Rule;" (.ref o9)) (S10 : Sta Z Z.heap "com/example/frugal_scheduler/frugalscheduler/plan/Rule" "COST_MISMATCH" "Lcom/example/frugal_scheduler/frugalscheduler/plan/Rule;" (.ref o10)) (S11 : Sta Z Z.heap "com/example/frugal_scheduler/frugalscheduler/plan/Rule" "MAKESPAN_MISMATCH" "Lcom/example/frugal_scheduler/frugalscheduler/plan/Rule;" (.ref o11)) (E0 : Exa Z Z.heap o0 "com/example/frugal_scheduler/frugalscheduler/plan/Rule") (E1 : Exa Z Z.heap o1 "com/example/frugal_scheduler/frugalscheduler/plan/Rule") (E2 : Exa Z Z.heap o2 "com/example/frugal_scheduler/frugalscheduler/plan/Rule") (E3 : Exa Z Z.heap o3 "com/example/frugal_scheduler/frugalscheduler/plan/Rule") (E4 : Exa Z Z.heap o4 "com/example/frugal_scheduler/frugalscheduler/plan/Rule") (E5 : Exa Z Z.heap o5 "com/example/frugal_scheduler/frugalscheduler/plan/Rule") (E6 : Exa Z Z.heap o6 "com/example/frugal_scheduler/frugalscheduler/plan/Rule") (E7 : Exa Z Z.heap o7 "com/example/frugal_scheduler/frugalscheduler/plan/Rule") (E8 : Exa Z Z.heap o8 "com/example/frugal_scheduler/frugalscheduler/plan/Rule") (E9 : Exa Z Z.heap o9 "com/example/frugal_scheduler/frugalscheduler/plan/Rule") (E10 : Exa Z Z.heap o10 "com/example/frugal_scheduler/frugalscheduler/plan/Rule") (E11 : Exa Z Z.heap o11 "com/example/frugal_scheduler/frugalscheduler/plan/Rule") (SC : Sta Z Z.heap "java/lang/String" "COMPACT_STRINGS" "Z" (.int zc)) (hzc : ¬ zc = (0 : Int32)) (SE : Sta Z Z.heap "java/util/Optional" "EMPTY" "Ljava/util/Optional;" (.ref em)) (EE : Exa Z Z.heap em "java/util/Optional") (FE : Fld Z Z.heap em "java/util/Optional" "value" "Ljava/lang/Object;" .null) :
    own_ConW l Z (fun vm => CHv Z consts_1 vm h0) x code maxLocals ret room_1 #[(.int p0), (.int p1), (.int p2)] h0 (fun v h L => v = some (.int 1) ∧ Fr Z.heap.size L) := by
  refine own_conW (ls := #[.val (.int p0), .val (.int p1), .val (.int p2), .unset, .unset, .unset, .unset, .unset, .unset, .unset, .unset, .unset, .unset]) (pn_com_example_frugal_scheduler_frugalscheduler_plan_ViolationOfPlanPinLaw) (fun m => by first | (simp [entryFrame, mkF, argsToLocals, Value.category, maxLocals]; done) | rfl) ?_
  intro p e s m below meth c s₁ hx hby hml0 hown0 hnm0 hret0 hlk hZ X0 e0 hS0 hJ
  have hml : c.maxLocals = 13 := hml0
  have hown : s.vm.findClass "com/example/frugal_scheduler/frugalscheduler/plan/ViolationOfPlanPinLaw" = some m.cls := hown0
  have hnm : meth.name = "law" := hnm0
  have hret : meth.sig.returnType = (some .boolean) := hret0
  have F389 := Fr.nil Z.heap.size
  have F390 := Keep.refl h0 []
  refine own_step (T' := s₁) (g' := (mkF m 1 #[.val (.int p0), .val (.int p1), .val (.int p2), .unset, .unset, .unset, .unset, .unset, .unset, .unset, .unset, .unset, .unset] [(.int p0)])) (fun _ kk => XS.iloadN X0.here hx rfl (hb hby at_0) rfl kk) ?_
  refine own_step (T' := s₁) (g' := (mkF m 3 #[.val (.int p0), .val (.int p1), .val (.int p2), .unset, .unset, .unset, .unset, .unset, .unset, .unset, .unset, .unset, .unset] [(.int (2147483647 : Int32)), (.int p0)])) (fun _ kk => X0.ldcInt hx hown (mvT hZ (w0 hw)) (g := (mkF m 1 #[.val (.int p0), .val (.int p1), .val (.int p2), .unset, .unset, .unset, .unset, .unset, .unset, .unset, .unset, .unset, .unset] [(.int p0)])) rfl (hb hby at_1) _ kk) ?_
  refine own_step (T' := s₁) (g' := (mkF m 4 #[.val (.int p0), .val (.int p1), .val (.int p2), .unset, .unset, .unset, .unset, .unset, .unset, .unset, .unset, .unset, .unset] [(.int (p0 &&& (2147483647 : Int32)))])) (fun _ kk => XS.iand X0.here hx rfl (hb hby at_3) rfl kk) ?_
  refine own_step (T' := s₁) (g' := (mkF m 6 #[.val (.int p0), .val (.int p1), .val (.int p2), .unset, .unset, .unset, .unset, .unset, .unset, .unset, .unset, .unset, .unset] [(.int (12 : Int32)), (.int (p0 &&& (2147483647 : Int32)))])) (fun _ kk => XS.bipush X0.here hx rfl (hb hby at_4) kk) ?_
  refine own_step (T' := s₁) (g' := (mkF m 7 #[.val (.int p0), .val (.int p1), .val (.int p2), .unset, .unset, .unset, .unset, .unset, .unset, .unset, .unset, .unset, .unset] [(.int ((p0 &&& (2147483647 : Int32)) % (12 : Int32)))])) (fun _ kk => iremM X0 hx rfl (hb hby at_6) rfl (by decide) kk) ?_
  obtain ⟨T391, L391, _, h391, X391, e391, ⟨x3, rfl, Nq, eh, PX⟩, st391⟩ := own_callS X0 hx hZ hown (w1 hw) (w2 hw) (w4 hw) (w3 hw) (by decide) (g := (mkF m 7 #[.val (.int p0), .val (.int p1), .val (.int p2), .unset, .unset, .unset, .unset, .unset, .unset, .unset, .unset, .unset, .unset] [(.int ((p0 &&& (2147483647 : Int32)) % (12 : Int32)))])) rfl (by rw [hml]; rfl) (argsL := [(.int ((p0 &&& (2147483647 : Int32)) % (12 : Int32)))]) (rest := []) (rm_pick l Z a0 hw ((p0 &&& (2147483647 : Int32)) % (12 : Int32)) o0 o1 o2 o3 o4 o5 o6 o7 o8 o9 o10 o11 (fun y => Exa Z Z.heap y "com/example/frugal_scheduler/frugalscheduler/plan/Rule") _ O0 S0 S1 S2 S3 S4 S5 S6 S7 S8 S9 S10 S11 E0 E1 E2 E3 E4 E5 E6 E7 E8 E9 E10 E11) e0 pd__I_Lcom_example_frugal_scheduler_frugalscheduler_plan_Rule_ rfl rfl (W := 0) (by show 2 * 0 + _ ≤ _; exact Nat.le_of_eq rfl) (hb hby at_7) (by decide) (by decide) (by decide) (by decide)
  have F392 := Fr.app F389 Nq
  have F393 := e391.trans eh
  refine own_step (T' := T391) (g' := (mkF m 10 #[.val (.int p0), .val (.int p1), .val (.int p2), .unset, .unset, .unset, .unset, .unset, .unset, .unset, .unset, .unset, .unset] [(.ref x3)])) (fun _ kk => st391 _ kk) ?_
  refine own_step (T' := T391) (g' := (mkF m 11 #[.val (.int p0), .val (.int p1), .val (.int p2), .val (.ref x3), .unset, .unset, .unset, .unset, .unset, .unset, .unset, .unset, .unset] [])) (fun _ kk => XS.astoreN X391.here hx rfl (hb hby at_10) rfl rfl (l' := #[.val (.int p0), .val (.int p1), .val (.int p2), .val (.ref x3), .unset, .unset, .unset, .unset, .unset, .unset, .unset, .unset, .unset]) rfl kk) ?_
  refine own_step (T' := T391) (g' := (mkF m 12 #[.val (.int p0), .val (.int p1), .val (.int p2), .val (.ref x3), .unset, .unset, .unset, .unset, .unset, .unset, .unset, .unset, .unset] [(.int p1)])) (fun _ kk => XS.iloadN X391.here hx rfl (hb hby at_11) rfl kk) ?_
  refine own_step (T' := T391) (g' := (mkF m 15 #[.val (.int p0), .val (.int p1), .val (.int p2), .val (.ref x3), .unset, .unset, .unset, .unset, .unset, .unset, .unset, .unset, .unset] [(.int (255 : Int32)), (.int p1)])) (fun _ kk => XS.sipush X391.here hx rfl (hb hby at_12) kk) ?_
  refine own_step (T' := T391) (g' := (mkF m 16 #[.val (.int p0), .val (.int p1), .val (.int p2), .val (.ref x3), .unset, .unset, .unset, .unset, .unset, .unset, .unset, .unset, .unset] [(.int (p1 &&& (255 : Int32)))])) (fun _ kk => XS.iand X391.here hx rfl (hb hby at_15) rfl kk) ?_
  refine own_step (T' := T391) (g' := (mkF m 17 #[.val (.int p0), .val (.int p1), .val (.int p2), .val (.ref x3), .unset, .unset, .unset, .unset, .unset, .unset, .unset, .unset, .unset] [(.int ((p1 &&& (255 : Int32)).toUInt32.toUInt16.toUInt32.toInt32))])) (fun _ kk => XS.i2c X391.here hx rfl (hb hby at_16) rfl kk) ?_
  rw [i2c_mask]
  obtain ⟨c0, hc0⟩ : ∃ z, z = (p1 &&& (255 : Int32)) := ⟨_, rfl⟩
  rw [← hc0]
  have b0 : 0 ≤ c0.toInt ∧ c0.toInt ≤ 255 := by rw [hc0]; exact own_m255 _
  refine own_step (T' := T391) (g' := (mkF m 19 #[.val (.int p0), .val (.int p1), .val (.int p2), .val (.ref x3), .val (.int c0), .unset, .unset, .unset, .unset, .unset, .unset, .unset, .unset] [])) (fun _ kk => XS.istore X391.here hx rfl (hb hby at_17) rfl (l' := #[.val (.int p0), .val (.int p1), .val (.int p2), .val (.ref x3), .val (.int c0), .unset, .unset, .unset, .unset, .unset, .unset, .unset, .unset]) rfl kk) ?_
  refine own_step (T' := T391) (g' := (mkF m 20 #[.val (.int p0), .val (.int p1), .val (.int p2), .val (.ref x3), .val (.int c0), .unset, .unset, .unset, .unset, .unset, .unset, .unset, .unset] [(.int p1)])) (fun _ kk => XS.iloadN X391.here hx rfl (hb hby at_19) rfl kk) ?_
  refine own_step (T' := T391) (g' := (mkF m 22 #[.val (.int p0), .val (.int p1), .val (.int p2), .val (.ref x3), .val (.int c0), .unset, .unset, .unset, .unset, .unset, .unset, .unset, .unset] [(.int (8 : Int32)), (.int p1)])) (fun _ kk => XS.bipush X391.here hx rfl (hb hby at_20) kk) ?_
  refine own_step (T' := T391) (g' := (mkF m 23 #[.val (.int p0), .val (.int p1), .val (.int p2), .val (.ref x3), .val (.int c0), .unset, .unset, .unset, .unset, .unset, .unset, .unset, .unset] [(.int ((p1).toUInt32 >>> ((8 : Int32) &&& 31).toUInt32).toInt32)])) (fun _ kk => XS.iushr X391.here hx rfl (hb hby at_22) rfl kk) ?_
  refine own_step (T' := T391) (g' := (mkF m 26 #[.val (.int p0), .val (.int p1), .val (.int p2), .val (.ref x3), .val (.int c0), .unset, .unset, .unset, .unset, .unset, .unset, .unset, .unset] [(.int (255 : Int32)), (.int (((p1).toUInt32 >>> ((8 : Int32) &&& 31).toUInt32).toInt32))])) (fun _ kk => XS.sipush X391.here hx rfl (hb hby at_23) kk) ?_
  refine own_step (T' := T391) (g' := (mkF m 27 #[.val (.int p0), .val (.int p1), .val (.int p2), .val (.ref x3), .val (.int c0), .unset, .unset, .unset, .unset, .unset, .unset, .unset, .unset] [(.int ((((p1).toUInt32 >>> ((8 : Int32) &&& 31).toUInt32).toInt32) &&& (255 : Int32)))])) (fun _ kk => XS.iand X391.here hx rfl (hb hby at_26) rfl kk) ?_
  refine own_step (T' := T391) (g' := (mkF m 28 #[.val (.int p0), .val (.int p1), .val (.int p2), .val (.ref x3), .val (.int c0), .unset, .unset, .unset, .unset, .unset, .unset, .unset, .unset] [(.int (((((p1).toUInt32 >>> ((8 : Int32) &&& 31).toUInt32).toInt32) &&& (255 : Int32)).toUInt32.toUInt16.toUInt32.toInt32))])) (fun _ kk => XS.i2c X391.here hx rfl (hb hby at_27) rfl kk) ?_
  rw [i2c_mask]
  obtain ⟨c1, hc1⟩ : ∃ z, z = ((((p1).toUInt32 >>> ((8 : Int32) &&& 31).toUInt32).toInt32) &&& (255 : Int32)) := ⟨_, rfl⟩
  rw [← hc1]
  have b1 : 0 ≤ c1.toInt ∧ c1.toInt ≤ 255 := by rw [hc1]; exact own_m255 _
  refine own_step (T' := T391) (g' := (mkF m 30 #[.val (.int p0), .val (.int p1), .val (.int p2), .val (.ref x3), .val (.int c0), .val (.int c1), .unset, .unset, .unset, .unset, .unset, .unset, .unset] [])) (fun _ kk => XS.istore X391.here hx rfl (hb hby at_28) rfl (l' := #[.val (.int p0), .val (.int p1), .val (.int p2), .val (.ref x3), .val (.int c0), .val (.int c1), .unset, .unset, .unset, .unset, .unset, .unset, .unset]) rfl kk) ?_
  refine own_step (T' := T391) (g' := (mkF m 31 #[.val (.int p0), .val (.int p1), .val (.int p2), .val (.ref x3), .val (.int c0), .val (.int c1), .unset, .unset, .unset, .unset, .unset, .unset, .unset] [(.int p1)])) (fun _ kk => XS.iloadN X391.here hx rfl (hb hby at_30) rfl kk) ?_
  refine own_step (T' := T391) (g' := (mkF m 33 #[.val (.int p0), .val (.int p1), .val (.int p2), .val (.ref x3), .val (.int c0), .val (.int c1), .unset, .unset, .unset, .unset, .unset, .unset, .unset] [(.int (16 : Int32)), (.int p1)])) (fun _ kk => XS.bipush X391.here hx rfl (hb hby at_31) kk) ?_
  refine own_step (T' := T391) (g' := (mkF m 34 #[.val (.int p0), .val (.int p1), .val (.int p2), .val (.ref x3), .val (.int c0), .val (.int c1), .unset, .unset, .unset, .unset, .unset, .unset, .unset] [(.int ((p1).toUInt32 >>> ((16 : Int32) &&& 31).toUInt32).toInt32)])) (fun _ kk => XS.iushr X391.here hx rfl (hb hby at_33) rfl kk) ?_
  refine own_step (T' := T391) (g' := (mkF m 37 #[.val (.int p0), .val (.int p1), .val (.int p2), .val (.ref x3), .val (.int c0), .val (.int c1), .unset, .unset, .unset, .unset, .unset, .unset, .unset] [(.int (255 : Int32)), (.int (((p1).toUInt32 >>> ((16 : Int32) &&& 31).toUInt32).toInt32))])) (fun _ kk => XS.sipush X391.here hx rfl (hb hby at_34) kk) ?_
  refine own_step (T' := T391) (g' := (mkF m 38 #[.val (.int p0), .val (.int p1), .val (.int p2), .val (.ref x3), .val (.int c0), .val (.int c1), .unset, .unset, .unset, .unset, .unset, .unset, .unset] [(.int ((((p1).toUInt32 >>> ((16 : Int32) &&& 31).toUInt32).toInt32) &&& (255 : Int32)))])) (fun _ kk => XS.iand X391.here hx rfl (hb hby at_37) rfl kk) ?_
  refine own_step (T' := T391) (g' := (mkF m 39 #[.val (.int p0), .val (.int p1), .val (.int p2), .val (.ref x3), .val (.int c0), .val (.int c1), .unset, .unset, .unset, .unset, .unset, .unset, .unset] [(.int (((((p1).toUInt32 >>> ((16 : Int32) &&& 31).toUInt32).toInt32) &&& (255 : Int32)).toUInt32.toUInt16.toUInt32.toInt32))])) (fun _ kk => XS.i2c X391.here hx rfl (hb hby at_38) rfl kk) ?_
  rw [i2c_mask]
  obtain ⟨c2, hc2⟩ : ∃ z, z = ((((p1).toUInt32 >>> ((16 : Int32) &&& 31).toUInt32).toInt32) &&& (255 : Int32)) := ⟨_, rfl⟩
  rw [← hc2]
  have b2 : 0 ≤ c2.toInt ∧ c2.toInt ≤ 255 := by rw [hc2]; exact own_m255 _
  have hB : own_B [c0, c1, c2] := fun c hc => by
    simp only [List.mem_cons, List.not_mem_nil, or_false] at hc
    rcases hc with rfl | rfl | rfl
    · exact own_c8 b0.1 b0.2
    · exact own_c8 b1.1 b1.2
    · exact own_c8 b2.1 b2.2
  refine own_step (T' := T391) (g' := (mkF m 41 #[.val (.int p0), .val (.int p1), .val (.int p2), .val (.ref x3), .val (.int c0), .val (.int c1), .val (.int c2), .unset, .unset, .unset, .unset, .unset, .unset] [])) (fun _ kk => XS.istore X391.here hx rfl (hb hby at_39) rfl (l' := #[.val (.int p0), .val (.int p1), .val (.int p2), .val (.ref x3), .val (.int c0), .val (.int c1), .val (.int c2), .unset, .unset, .unset, .unset, .unset, .unset]) rfl kk) ?_
  refine own_step (T' := T391) (g' := (mkF m 42 #[.val (.int p0), .val (.int p1), .val (.int p2), .val (.ref x3), .val (.int c0), .val (.int c1), .val (.int c2), .unset, .unset, .unset, .unset, .unset, .unset] [(.int p2)])) (fun _ kk => XS.iloadN X391.here hx rfl (hb hby at_41) rfl kk) ?_
  refine own_step (T' := T391) (g' := (mkF m 43 #[.val (.int p0), .val (.int p1), .val (.int p2), .val (.ref x3), .val (.int c0), .val (.int c1), .val (.int c2), .unset, .unset, .unset, .unset, .unset, .unset] [(.int (3 : Int32)), (.int p2)])) (fun _ kk => XS.iconst X391.here hx rfl (hb hby at_42) kk) ?_
  refine own_step (T' := T391) (g' := (mkF m 44 #[.val (.int p0), .val (.int p1), .val (.int p2), .val (.ref x3), .val (.int c0), .val (.int c1), .val (.int c2), .unset, .unset, .unset, .unset, .unset, .unset] [(.int (p2 &&& (3 : Int32)))])) (fun _ kk => XS.iand X391.here hx rfl (hb hby at_43) rfl kk) ?_
  refine own_step (T' := T391) (g' := (mkF m 46 #[.val (.int p0), .val (.int p1), .val (.int p2), .val (.ref x3), .val (.int c0), .val (.int c1), .val (.int c2), .unset, .unset, .unset, .unset, .unset, .unset] [(.int c0), (.int (p2 &&& (3 : Int32)))])) (fun _ kk => XS.iload X391.here hx rfl (hb hby at_44) rfl kk) ?_
  refine own_step (T' := T391) (g' := (mkF m 48 #[.val (.int p0), .val (.int p1), .val (.int p2), .val (.ref x3), .val (.int c0), .val (.int c1), .val (.int c2), .unset, .unset, .unset, .unset, .unset, .unset] [(.int c1), (.int c0), (.int (p2 &&& (3 : Int32)))])) (fun _ kk => XS.iload X391.here hx rfl (hb hby at_46) rfl kk) ?_
  refine own_step (T' := T391) (g' := (mkF m 50 #[.val (.int p0), .val (.int p1), .val (.int p2), .val (.ref x3), .val (.int c0), .val (.int c1), .val (.int c2), .unset, .unset, .unset, .unset, .unset, .unset] [(.int c2), (.int c1), (.int c0), (.int (p2 &&& (3 : Int32)))])) (fun _ kk => XS.iload X391.here hx rfl (hb hby at_48) rfl kk) ?_
  obtain ⟨T394, L394, _, h394, X394, e394, hS394, hZ394, ho394, ⟨sx, rfl, Nm, Km, Em⟩, st394⟩ := own_callSW X391 hx hZ hown hS0 (Nat.zero_le _) (w8 hw) (w9 hw) (w10 hw) (w3 hw) (by decide) (g := (mkF m 50 #[.val (.int p0), .val (.int p1), .val (.int p2), .val (.ref x3), .val (.int c0), .val (.int c1), .val (.int c2), .unset, .unset, .unset, .unset, .unset, .unset] [(.int c2), (.int c1), (.int c0), (.int (p2 &&& (3 : Int32)))])) rfl (by rw [hml]; rfl) (argsL := [(.int (p2 &&& (3 : Int32))), (.int c0), (.int c1), (.int c2)]) (rest := []) (rm_text l Z a0 hw (p2 &&& (3 : Int32)) c0 c1 c2 zc _ O0 SC hzc b0 b1 b2 hB) (fun m meth c A Y => (CHv.at Y hZ (own_EW hw) hJ).1) F393 pd__ICCC_Ljava_lang_String_ rfl rfl (W := 0) (by show 2 * 0 + _ ≤ _; exact Nat.le_of_eq rfl) (hb hby at_50) (by decide) (by decide) (by decide) (by decide)
  have F395 := Fr.app F392 Nm
  have F396 := Nat.le_trans (Nat.zero_le _) Km.1
  have F397 := O0.keep Km all0
  have F398 := F390.trans Km all0
  refine own_step (T' := T394) (g' := (mkF m 53 #[.val (.int p0), .val (.int p1), .val (.int p2), .val (.ref x3), .val (.int c0), .val (.int c1), .val (.int c2), .unset, .unset, .unset, .unset, .unset, .unset] [(.ref sx)])) (fun _ kk => st394 _ kk) ?_
  refine own_step (T' := T394) (g' := (mkF m 55 #[.val (.int p0), .val (.int p1), .val (.int p2), .val (.ref x3), .val (.int c0), .val (.int c1), .val (.int c2), .val (.ref sx), .unset, .unset, .unset, .unset, .unset] [])) (fun _ kk => XS.astore X394.here hx rfl (hb hby at_53) rfl rfl (l' := #[.val (.int p0), .val (.int p1), .val (.int p2), .val (.ref x3), .val (.int c0), .val (.int c1), .val (.int c2), .val (.ref sx), .unset, .unset, .unset, .unset, .unset]) rfl kk) ?_
  refine own_step (T' := T394) (g' := (mkF m 56 #[.val (.int p0), .val (.int p1), .val (.int p2), .val (.ref x3), .val (.int c0), .val (.int c1), .val (.int c2), .val (.ref sx), .unset, .unset, .unset, .unset, .unset] [(.ref x3)])) (fun _ kk => XS.aloadN X394.here hx rfl (hb hby at_55) rfl rfl kk) ?_
  refine own_step (T' := T394) (g' := (mkF m 58 #[.val (.int p0), .val (.int p1), .val (.int p2), .val (.ref x3), .val (.int c0), .val (.int c1), .val (.int c2), .val (.ref sx), .unset, .unset, .unset, .unset, .unset] [(.ref sx), (.ref x3)])) (fun _ kk => XS.aload X394.here hx rfl (hb hby at_56) rfl rfl kk) ?_
  obtain ⟨T399, L399, _, h399, X399, e399, hS399, hZ399, ho399, ⟨vv, rfl, No, Ko, Oo, F1, F2, F3, F4⟩, st399⟩ := own_callSW X394 hx hZ394 ho394 hS394 (Nat.le_refl _) (w41 hw) (w42 hw) (w44 hw) (w43 hw) (by decide) (g := (mkF m 58 #[.val (.int p0), .val (.int p1), .val (.int p2), .val (.ref x3), .val (.int c0), .val (.int c1), .val (.int c2), .val (.ref sx), .unset, .unset, .unset, .unset, .unset] [(.ref sx), (.ref x3)])) rfl (by rw [hml]; rfl) (argsL := [(.ref x3), (.ref sx)]) (rest := []) (rm_op l Z a0 hw x3 sx _ F397 (PX.ext F397.2) Em) (fun _ _ _ _ _ => trivial) e394 pd__Lcom_example_frugal_scheduler_frugalscheduler_plan_Rule_Ljava_lang_String__Lcom_example_frugal_scheduler_frugalscheduler_plan_Violation_ rfl rfl (W := 0) (by show 2 * 0 + _ ≤ _; exact Nat.le_of_eq rfl) (hb hby at_58) (by decide) (by decide) (by decide) (by decide)
  have F400 := Fr.app F395 No
  have F401 := Em.keep Ko
  have F402 := Nat.le_trans (Nat.le_refl _) Ko.1
  have F403 := F397.keep Ko all0
  have F404 := F398.trans Ko all0
  refine own_step (T' := T399) (g' := (mkF m 61 #[.val (.int p0), .val (.int p1), .val (.int p2), .val (.ref x3), .val (.int c0), .val (.int c1), .val (.int c2), .val (.ref sx), .unset, .unset, .unset, .unset, .unset] [(.ref vv)])) (fun _ kk => st399 _ kk) ?_
  refine own_step (T' := T399) (g' := (mkF m 63 #[.val (.int p0), .val (.int p1), .val (.int p2), .val (.ref x3), .val (.int c0), .val (.int c1), .val (.int c2), .val (.ref sx), .val (.ref vv), .unset, .unset, .unset, .unset] [])) (fun _ kk => XS.astore X399.here hx rfl (hb hby at_61) rfl rfl (l' := #[.val (.int p0), .val (.int p1), .val (.int p2), .val (.ref x3), .val (.int c0), .val (.int c1), .val (.int c2), .val (.ref sx), .val (.ref vv), .unset, .unset, .unset, .unset]) rfl kk) ?_
  refine own_step (T' := T399) (g' := (mkF m 65 #[.val (.int p0), .val (.int p1), .val (.int p2), .val (.ref x3), .val (.int c0), .val (.int c1), .val (.int c2), .val (.ref sx), .val (.ref vv), .unset, .unset, .unset, .unset] [(.ref vv)])) (fun _ kk => XS.aload X399.here hx rfl (hb hby at_63) rfl rfl kk) ?_
  obtain ⟨T406, L406, _, h406, X406, e406, ⟨rfl, Nq405, eh405⟩, st406⟩ := own_callV X399 hx hZ399 ho399 (w70 hw) (w71 hw) (w73 hw) (w72 hw) (w74 hw) (w43 hw) (by decide) Oo.1 (g := (mkF m 65 #[.val (.int p0), .val (.int p1), .val (.int p2), .val (.ref x3), .val (.int c0), .val (.int c1), .val (.int c2), .val (.ref sx), .val (.ref vv), .unset, .unset, .unset, .unset] [(.ref vv)])) rfl (by rw [hml]; rfl) (argsL := []) (rest := []) (rm_gr l Z a0 hw vv x3 _ F403 F1) e399 pd___Lcom_example_frugal_scheduler_frugalscheduler_plan_Rule_ rfl rfl (W := 0) (by show 2 * 0 + _ ≤ _; exact Nat.le_of_eq rfl) (hb hby at_65) (by decide) (by decide) (by decide) (by decide)
  have F407 := Fr.app F400 Nq405
  have F408 := e406.trans eh405
  refine own_step (T' := T406) (g' := (mkF m 68 #[.val (.int p0), .val (.int p1), .val (.int p2), .val (.ref x3), .val (.int c0), .val (.int c1), .val (.int c2), .val (.ref sx), .val (.ref vv), .unset, .unset, .unset, .unset] [(.ref x3)])) (fun _ kk => st406 _ kk) ?_
  refine own_step (T' := T406) (g' := (mkF m 69 #[.val (.int p0), .val (.int p1), .val (.int p2), .val (.ref x3), .val (.int c0), .val (.int c1), .val (.int c2), .val (.ref sx), .val (.ref vv), .unset, .unset, .unset, .unset] [(.ref x3), (.ref x3)])) (fun _ kk => XS.aloadN X406.here hx rfl (hb hby at_68) rfl rfl kk) ?_
  refine own_step (T' := T406) (g' := (mkF m 72 #[.val (.int p0), .val (.int p1), .val (.int p2), .val (.ref x3), .val (.int c0), .val (.int c1), .val (.int c2), .val (.ref sx), .val (.ref vv), .unset, .unset, .unset, .unset] [])) (fun _ kk => acmp X406 hx rfl rfl rfl (pc0 := 69) (pc' := 72) rfl (hb hby at_69) rfl (same := true) (by simp) (by decide) rfl kk) ?_
  refine own_step (T' := T406) (g' := (mkF m 73 #[.val (.int p0), .val (.int p1), .val (.int p2), .val (.ref x3), .val (.int c0), .val (.int c1), .val (.int c2), .val (.ref sx), .val (.ref vv), .unset, .unset, .unset, .unset] [(.int (1 : Int32))])) (fun _ kk => XS.iconst X406.here hx rfl (hb hby at_72) kk) ?_
  refine own_step (T' := T406) (g' := (mkF m 77 #[.val (.int p0), .val (.int p1), .val (.int p2), .val (.ref x3), .val (.int c0), .val (.int c1), .val (.int c2), .val (.ref sx), .val (.ref vv), .unset, .unset, .unset, .unset] [(.int (1 : Int32))])) (fun _ kk => XS.goto X406.here hx rfl (pc0 := 73) (pc' := 77) rfl (hb hby at_73) (by decide) (by decide) kk) ?_
  refine own_step (T' := T406) (g' := (mkF m 79 #[.val (.int p0), .val (.int p1), .val (.int p2), .val (.ref x3), .val (.int c0), .val (.int c1), .val (.int c2), .val (.ref sx), .val (.ref vv), .val (.int (1 : Int32)), .unset, .unset, .unset] [])) (fun _ kk => XS.istore X406.here hx rfl (hb hby at_77) rfl (l' := #[.val (.int p0), .val (.int p1), .val (.int p2), .val (.ref x3), .val (.int c0), .val (.int c1), .val (.int c2), .val (.ref sx), .val (.ref vv), .val (.int (1 : Int32)), .unset, .unset, .unset]) rfl kk) ?_
  refine own_step (T' := T406) (g' := (mkF m 81 #[.val (.int p0), .val (.int p1), .val (.int p2), .val (.ref x3), .val (.int c0), .val (.int c1), .val (.int c2), .val (.ref sx), .val (.ref vv), .val (.int (1 : Int32)), .unset, .unset, .unset] [(.ref vv)])) (fun _ kk => XS.aload X406.here hx rfl (hb hby at_79) rfl rfl kk) ?_
  obtain ⟨T410, L410, _, h410, X410, e410, ⟨rfl, Nq409, eh409⟩, st410⟩ := own_callV X406 hx hZ399 ho399 (w75 hw) (w76 hw) (w78 hw) (w77 hw) (w79 hw) (w43 hw) (by decide) Oo.1 (g := (mkF m 81 #[.val (.int p0), .val (.int p1), .val (.int p2), .val (.ref x3), .val (.int c0), .val (.int c1), .val (.int c2), .val (.ref sx), .val (.ref vv), .val (.int (1 : Int32)), .unset, .unset, .unset] [(.ref vv)])) rfl (by rw [hml]; rfl) (argsL := []) (rest := []) (rm_gm l Z a0 hw vv sx _ F403 F4) F408 pd___Ljava_lang_String_ rfl rfl (W := 0) (by show 2 * 0 + _ ≤ _; exact Nat.le_of_eq rfl) (hb hby at_81) (by decide) (by decide) (by decide) (by decide)
  have F411 := Fr.app F407 Nq409
  have F412 := e410.trans eh409
  refine own_step (T' := T410) (g' := (mkF m 84 #[.val (.int p0), .val (.int p1), .val (.int p2), .val (.ref x3), .val (.int c0), .val (.int c1), .val (.int c2), .val (.ref sx), .val (.ref vv), .val (.int (1 : Int32)), .unset, .unset, .unset] [(.ref sx)])) (fun _ kk => st410 _ kk) ?_
  refine own_step (T' := T410) (g' := (mkF m 86 #[.val (.int p0), .val (.int p1), .val (.int p2), .val (.ref x3), .val (.int c0), .val (.int c1), .val (.int c2), .val (.ref sx), .val (.ref vv), .val (.int (1 : Int32)), .unset, .unset, .unset] [(.ref sx), (.ref sx)])) (fun _ kk => XS.aload X410.here hx rfl (hb hby at_84) rfl rfl kk) ?_
  obtain ⟨T414, L414, _, h414, X414, e414, ⟨rfl, Nq413, eh413⟩, st414⟩ := own_callV X410 hx hZ399 ho399 (w80 hw) (w81 hw) (w83 hw) (w82 hw) (w84 hw) (w13 hw) (by decide) F401 (g := (mkF m 86 #[.val (.int p0), .val (.int p1), .val (.int p2), .val (.ref x3), .val (.int c0), .val (.int c1), .val (.int c2), .val (.ref sx), .val (.ref vv), .val (.int (1 : Int32)), .unset, .unset, .unset] [(.ref sx), (.ref sx)])) rfl (by rw [hml]; rfl) (argsL := [(.ref sx)]) (rest := []) (rm_eq l Z a0 hw sx _ F403) F412 pd__Ljava_lang_Object__Z rfl rfl (W := 0) (by show 2 * 0 + _ ≤ _; exact Nat.le_of_eq rfl) (hb hby at_86) (by decide) (by decide) (by decide) (by decide)
  have F415 := Fr.app F411 Nq413
  have F416 := e414.trans eh413
  refine own_step (T' := T414) (g' := (mkF m 89 #[.val (.int p0), .val (.int p1), .val (.int p2), .val (.ref x3), .val (.int c0), .val (.int c1), .val (.int c2), .val (.ref sx), .val (.ref vv), .val (.int (1 : Int32)), .unset, .unset, .unset] [(.int (1 : Int32))])) (fun _ kk => st414 _ kk) ?_
  refine own_step (T' := T414) (g' := (mkF m 91 #[.val (.int p0), .val (.int p1), .val (.int p2), .val (.ref x3), .val (.int c0), .val (.int c1), .val (.int c2), .val (.ref sx), .val (.ref vv), .val (.int (1 : Int32)), .val (.int (1 : Int32)), .unset, .unset] [])) (fun _ kk => XS.istore X414.here hx rfl (hb hby at_89) rfl (l' := #[.val (.int p0), .val (.int p1), .val (.int p2), .val (.ref x3), .val (.int c0), .val (.int c1), .val (.int c2), .val (.ref sx), .val (.ref vv), .val (.int (1 : Int32)), .val (.int (1 : Int32)), .unset, .unset]) rfl kk) ?_
  refine own_step (T' := T414) (g' := (mkF m 93 #[.val (.int p0), .val (.int p1), .val (.int p2), .val (.ref x3), .val (.int c0), .val (.int c1), .val (.int c2), .val (.ref sx), .val (.ref vv), .val (.int (1 : Int32)), .val (.int (1 : Int32)), .unset, .unset] [(.ref vv)])) (fun _ kk => XS.aload X414.here hx rfl (hb hby at_91) rfl rfl kk) ?_
  obtain ⟨T418, L418, _, h418, X418, e418, ⟨rfl, Nq417, eh417⟩, st418⟩ := own_callV X414 hx hZ399 ho399 (w85 hw) (w86 hw) (w88 hw) (w87 hw) (w89 hw) (w43 hw) (by decide) Oo.1 (g := (mkF m 93 #[.val (.int p0), .val (.int p1), .val (.int p2), .val (.ref x3), .val (.int c0), .val (.int c1), .val (.int c2), .val (.ref sx), .val (.ref vv), .val (.int (1 : Int32)), .val (.int (1 : Int32)), .unset, .unset] [(.ref vv)])) rfl (by rw [hml]; rfl) (argsL := []) (rest := []) (rm_gt l Z a0 hw vv em _ F403 SE F2) F416 pd___Ljava_util_Optional_ rfl rfl (W := 0) (by show 2 * 0 + _ ≤ _; exact Nat.le_of_eq rfl) (hb hby at_93) (by decide) (by decide) (by decide) (by decide)
  have F419 := Fr.app F415 Nq417
  have F420 := e418.trans eh417
  refine own_step (T' := T418) (g' := (mkF m 96 #[.val (.int p0), .val (.int p1), .val (.int p2), .val (.ref x3), .val (.int c0), .val (.int c1), .val (.int c2), .val (.ref sx), .val (.ref vv), .val (.int (1 : Int32)), .val (.int (1 : Int32)), .unset, .unset] [(.ref em)])) (fun _ kk => st418 _ kk) ?_
  obtain ⟨T422, L422, _, h422, X422, e422, ⟨rfl, Nq421, eh421⟩, st422⟩ := own_callV X418 hx hZ399 ho399 (w95 hw) (w96 hw) (w98 hw) (w97 hw) (w99 hw) (w92 hw) (by decide) (EE.ext F403.2) (g := (mkF m 96 #[.val (.int p0), .val (.int p1), .val (.int p2), .val (.ref x3), .val (.int c0), .val (.int c1), .val (.int c2), .val (.ref sx), .val (.ref vv), .val (.int (1 : Int32)), .val (.int (1 : Int32)), .unset, .unset] [(.ref em)])) rfl (by rw [hml]; rfl) (argsL := []) (rest := []) (rm_ip l Z a0 hw em _ F403 (FE.ext F403.2)) F420 pd___Z rfl rfl (W := 0) (by show 2 * 0 + _ ≤ _; exact Nat.le_of_eq rfl) (hb hby at_96) (by decide) (by decide) (by decide) (by decide)
  have F423 := Fr.app F419 Nq421
  have F424 := e422.trans eh421
  refine own_step (T' := T422) (g' := (mkF m 99 #[.val (.int p0), .val (.int p1), .val (.int p2), .val (.ref x3), .val (.int c0), .val (.int c1), .val (.int c2), .val (.ref sx), .val (.ref vv), .val (.int (1 : Int32)), .val (.int (1 : Int32)), .unset, .unset] [(.int (0 : Int32))])) (fun _ kk => st422 _ kk) ?_
  refine own_step (T' := T422) (g' := (mkF m 102 #[.val (.int p0), .val (.int p1), .val (.int p2), .val (.ref x3), .val (.int c0), .val (.int c1), .val (.int c2), .val (.ref sx), .val (.ref vv), .val (.int (1 : Int32)), .val (.int (1 : Int32)), .unset, .unset] [])) (fun _ kk => XS.ifNo X422.here hx rfl (hb hby at_99) rfl ((if0 _ _).trans (teq rfl).2) kk) ?_
  refine own_step (T' := T422) (g' := (mkF m 103 #[.val (.int p0), .val (.int p1), .val (.int p2), .val (.ref x3), .val (.int c0), .val (.int c1), .val (.int c2), .val (.ref sx), .val (.ref vv), .val (.int (1 : Int32)), .val (.int (1 : Int32)), .unset, .unset] [(.int (1 : Int32))])) (fun _ kk => XS.iconst X422.here hx rfl (hb hby at_102) kk) ?_
  refine own_step (T' := T422) (g' := (mkF m 107 #[.val (.int p0), .val (.int p1), .val (.int p2), .val (.ref x3), .val (.int c0), .val (.int c1), .val (.int c2), .val (.ref sx), .val (.ref vv), .val (.int (1 : Int32)), .val (.int (1 : Int32)), .unset, .unset] [(.int (1 : Int32))])) (fun _ kk => XS.goto X422.here hx rfl (pc0 := 103) (pc' := 107) rfl (hb hby at_103) (by decide) (by decide) kk) ?_
  refine own_step (T' := T422) (g' := (mkF m 109 #[.val (.int p0), .val (.int p1), .val (.int p2), .val (.ref x3), .val (.int c0), .val (.int c1), .val (.int c2), .val (.ref sx), .val (.ref vv), .val (.int (1 : Int32)), .val (.int (1 : Int32)), .val (.int (1 : Int32)), .unset] [])) (fun _ kk => XS.istore X422.here hx rfl (hb hby at_107) rfl (l' := #[.val (.int p0), .val (.int p1), .val (.int p2), .val (.ref x3), .val (.int c0), .val (.int c1), .val (.int c2), .val (.ref sx), .val (.ref vv), .val (.int (1 : Int32)), .val (.int (1 : Int32)), .val (.int (1 : Int32)), .unset]) rfl kk) ?_
  refine own_step (T' := T422) (g' := (mkF m 111 #[.val (.int p0), .val (.int p1), .val (.int p2), .val (.ref x3), .val (.int c0), .val (.int c1), .val (.int c2), .val (.ref sx), .val (.ref vv), .val (.int (1 : Int32)), .val (.int (1 : Int32)), .val (.int (1 : Int32)), .unset] [(.ref vv)])) (fun _ kk => XS.aload X422.here hx rfl (hb hby at_109) rfl rfl kk) ?_
  obtain ⟨T426, L426, _, h426, X426, e426, ⟨rfl, Nq425, eh425⟩, st426⟩ := own_callV X422 hx hZ399 ho399 (w102 hw) (w103 hw) (w105 hw) (w104 hw) (w106 hw) (w43 hw) (by decide) Oo.1 (g := (mkF m 111 #[.val (.int p0), .val (.int p1), .val (.int p2), .val (.ref x3), .val (.int c0), .val (.int c1), .val (.int c2), .val (.ref sx), .val (.ref vv), .val (.int (1 : Int32)), .val (.int (1 : Int32)), .val (.int (1 : Int32)), .unset] [(.ref vv)])) rfl (by rw [hml]; rfl) (argsL := []) (rest := []) (rm_gv l Z a0 hw vv em _ F403 SE F3) F424 pd___Ljava_util_Optional_ rfl rfl (W := 0) (by show 2 * 0 + _ ≤ _; exact Nat.le_of_eq rfl) (hb hby at_111) (by decide) (by decide) (by decide) (by decide)
  have F427 := Fr.app F423 Nq425
  have F428 := e426.trans eh425
  refine own_step (T' := T426) (g' := (mkF m 114 #[.val (.int p0), .val (.int p1), .val (.int p2), .val (.ref x3), .val (.int c0), .val (.int c1), .val (.int c2), .val (.ref sx), .val (.ref vv), .val (.int (1 : Int32)), .val (.int (1 : Int32)), .val (.int (1 : Int32)), .unset] [(.ref em)])) (fun _ kk => st426 _ kk) ?_
  obtain ⟨T430, L430, _, h430, X430, e430, ⟨rfl, Nq429, eh429⟩, st430⟩ := own_callV X426 hx hZ399 ho399 (w95 hw) (w96 hw) (w98 hw) (w97 hw) (w99 hw) (w92 hw) (by decide) (EE.ext F403.2) (g := (mkF m 114 #[.val (.int p0), .val (.int p1), .val (.int p2), .val (.ref x3), .val (.int c0), .val (.int c1), .val (.int c2), .val (.ref sx), .val (.ref vv), .val (.int (1 : Int32)), .val (.int (1 : Int32)), .val (.int (1 : Int32)), .unset] [(.ref em)])) rfl (by rw [hml]; rfl) (argsL := []) (rest := []) (rm_ip l Z a0 hw em _ F403 (FE.ext F403.2)) F428 pd___Z rfl rfl (W := 0) (by show 2 * 0 + _ ≤ _; exact Nat.le_of_eq rfl) (hb hby at_114) (by decide) (by decide) (by decide) (by decide)
  have F431 := Fr.app F427 Nq429
  have F432 := e430.trans eh429
  refine own_step (T' := T430) (g' := (mkF m 117 #[.val (.int p0), .val (.int p1), .val (.int p2), .val (.ref x3), .val (.int c0), .val (.int c1), .val (.int c2), .val (.ref sx), .val (.ref vv), .val (.int (1 : Int32)), .val (.int (1 : Int32)), .val (.int (1 : Int32)), .unset] [(.int (0 : Int32))])) (fun _ kk => st430 _ kk) ?_
  refine own_step (T' := T430) (g' := (mkF m 120 #[.val (.int p0), .val (.int p1), .val (.int p2), .val (.ref x3), .val (.int c0), .val (.int c1), .val (.int c2), .val (.ref sx), .val (.ref vv), .val (.int (1 : Int32)), .val (.int (1 : Int32)), .val (.int (1 : Int32)), .unset] [])) (fun _ kk => XS.ifNo X430.here hx rfl (hb hby at_117) rfl ((if0 _ _).trans (teq rfl).2) kk) ?_
  refine own_step (T' := T430) (g' := (mkF m 121 #[.val (.int p0), .val (.int p1), .val (.int p2), .val (.ref x3), .val (.int c0), .val (.int c1), .val (.int c2), .val (.ref sx), .val (.ref vv), .val (.int (1 : Int32)), .val (.int (1 : Int32)), .val (.int (1 : Int32)), .unset] [(.int (1 : Int32))])) (fun _ kk => XS.iconst X430.here hx rfl (hb hby at_120) kk) ?_
  refine own_step (T' := T430) (g' := (mkF m 125 #[.val (.int p0), .val (.int p1), .val (.int p2), .val (.ref x3), .val (.int c0), .val (.int c1), .val (.int c2), .val (.ref sx), .val (.ref vv), .val (.int (1 : Int32)), .val (.int (1 : Int32)), .val (.int (1 : Int32)), .unset] [(.int (1 : Int32))])) (fun _ kk => XS.goto X430.here hx rfl (pc0 := 121) (pc' := 125) rfl (hb hby at_121) (by decide) (by decide) kk) ?_
  refine own_step (T' := T430) (g' := (mkF m 127 #[.val (.int p0), .val (.int p1), .val (.int p2), .val (.ref x3), .val (.int c0), .val (.int c1), .val (.int c2), .val (.ref sx), .val (.ref vv), .val (.int (1 : Int32)), .val (.int (1 : Int32)), .val (.int (1 : Int32)), .val (.int (1 : Int32))] [])) (fun _ kk => XS.istore X430.here hx rfl (hb hby at_125) rfl (l' := #[.val (.int p0), .val (.int p1), .val (.int p2), .val (.ref x3), .val (.int c0), .val (.int c1), .val (.int c2), .val (.ref sx), .val (.ref vv), .val (.int (1 : Int32)), .val (.int (1 : Int32)), .val (.int (1 : Int32)), .val (.int (1 : Int32))]) rfl kk) ?_
  refine own_step (T' := T430) (g' := (mkF m 129 #[.val (.int p0), .val (.int p1), .val (.int p2), .val (.ref x3), .val (.int c0), .val (.int c1), .val (.int c2), .val (.ref sx), .val (.ref vv), .val (.int (1 : Int32)), .val (.int (1 : Int32)), .val (.int (1 : Int32)), .val (.int (1 : Int32))] [(.int (1 : Int32))])) (fun _ kk => XS.iload X430.here hx rfl (hb hby at_127) rfl kk) ?_
  refine own_step (T' := T430) (g' := (mkF m 132 #[.val (.int p0), .val (.int p1), .val (.int p2), .val (.ref x3), .val (.int c0), .val (.int c1), .val (.int c2), .val (.ref sx), .val (.ref vv), .val (.int (1 : Int32)), .val (.int (1 : Int32)), .val (.int (1 : Int32)), .val (.int (1 : Int32))] [])) (fun _ kk => XS.ifNo X430.here hx rfl (hb hby at_129) rfl ((if0 _ _).trans (feq (by decide)).1) kk) ?_
  refine own_step (T' := T430) (g' := (mkF m 134 #[.val (.int p0), .val (.int p1), .val (.int p2), .val (.ref x3), .val (.int c0), .val (.int c1), .val (.int c2), .val (.ref sx), .val (.ref vv), .val (.int (1 : Int32)), .val (.int (1 : Int32)), .val (.int (1 : Int32)), .val (.int (1 : Int32))] [(.int (1 : Int32))])) (fun _ kk => XS.iload X430.here hx rfl (hb hby at_132) rfl kk) ?_
  refine own_step (T' := T430) (g' := (mkF m 137 #[.val (.int p0), .val (.int p1), .val (.int p2), .val (.ref x3), .val (.int c0), .val (.int c1), .val (.int c2), .val (.ref sx), .val (.ref vv), .val (.int (1 : Int32)), .val (.int (1 : Int32)), .val (.int (1 : Int32)), .val (.int (1 : Int32))] [])) (fun _ kk => XS.ifNo X430.here hx rfl (hb hby at_134) rfl ((if0 _ _).trans (feq (by decide)).1) kk) ?_
  refine own_step (T' := T430) (g' := (mkF m 139 #[.val (.int p0), .val (.int p1), .val (.int p2), .val (.ref x3), .val (.int c0), .val (.int c1), .val (.int c2), .val (.ref sx), .val (.ref vv), .val (.int (1 : Int32)), .val (.int (1 : Int32)), .val (.int (1 : Int32)), .val (.int (1 : Int32))] [(.int (1 : Int32))])) (fun _ kk => XS.iload X430.here hx rfl (hb hby at_137) rfl kk) ?_
  refine own_step (T' := T430) (g' := (mkF m 142 #[.val (.int p0), .val (.int p1), .val (.int p2), .val (.ref x3), .val (.int c0), .val (.int c1), .val (.int c2), .val (.ref sx), .val (.ref vv), .val (.int (1 : Int32)), .val (.int (1 : Int32)), .val (.int (1 : Int32)), .val (.int (1 : Int32))] [])) (fun _ kk => XS.ifNo X430.here hx rfl (hb hby at_139) rfl ((if0 _ _).trans (feq (by decide)).1) kk) ?_
  refine own_step (T' := T430) (g' := (mkF m 144 #[.val (.int p0), .val (.int p1), .val (.int p2), .val (.ref x3), .val (.int c0), .val (.int c1), .val (.int c2), .val (.ref sx), .val (.ref vv), .val (.int (1 : Int32)), .val (.int (1 : Int32)), .val (.int (1 : Int32)), .val (.int (1 : Int32))] [(.int (1 : Int32))])) (fun _ kk => XS.iload X430.here hx rfl (hb hby at_142) rfl kk) ?_
  refine own_step (T' := T430) (g' := (mkF m 147 #[.val (.int p0), .val (.int p1), .val (.int p2), .val (.ref x3), .val (.int c0), .val (.int c1), .val (.int c2), .val (.ref sx), .val (.ref vv), .val (.int (1 : Int32)), .val (.int (1 : Int32)), .val (.int (1 : Int32)), .val (.int (1 : Int32))] [])) (fun _ kk => XS.ifNo X430.here hx rfl (hb hby at_144) rfl ((if0 _ _).trans (feq (by decide)).1) kk) ?_
  refine own_step (T' := T430) (g' := (mkF m 148 #[.val (.int p0), .val (.int p1), .val (.int p2), .val (.ref x3), .val (.int c0), .val (.int c1), .val (.int c2), .val (.ref sx), .val (.ref vv), .val (.int (1 : Int32)), .val (.int (1 : Int32)), .val (.int (1 : Int32)), .val (.int (1 : Int32))] [(.int (1 : Int32))])) (fun _ kk => XS.iconst X430.here hx rfl (hb hby at_147) kk) ?_
  refine own_step (T' := T430) (g' := (mkF m 152 #[.val (.int p0), .val (.int p1), .val (.int p2), .val (.ref x3), .val (.int c0), .val (.int c1), .val (.int c2), .val (.ref sx), .val (.ref vv), .val (.int (1 : Int32)), .val (.int (1 : Int32)), .val (.int (1 : Int32)), .val (.int (1 : Int32))] [(.int (1 : Int32))])) (fun _ kk => XS.goto X430.here hx rfl (pc0 := 148) (pc' := 152) rfl (hb hby at_148) (by decide) (by decide) kk) ?_
  exact own_retNW X430 hx hS399 (Nat.le_refl _) hlk (t := .boolean) hret (by simp) (hb hby at_152) F432 ⟨rfl, F431⟩ (by decide) (by decide)
set_option maxRecDepth 65536 in
set_option maxHeartbeats 40000000 in
theorem comes_1 {Post : Tables → Env → Array Value → State → Outcome → State → Prop} (hpost : ∀ tb e args s v u, (limb_1_1.after args s (.returned v) u = true ∧ limb_1_2.after args s (.returned v) u = true ∧ True) → ReturnedEndW s (.returned v) u (Jvm.fieldLocs frame_1_writes args s ++ Jvm.arrayLocs frame_1_arrays args s ++ Jvm.staticLocs frame_1_statics s) 24 3200 → Post tb e args s (.returned v) u) :
    ArmFor flags0 classFile x code maxLocals ret World_1 tables_1 room_1 Calls_1 rest_1 Pre_1 Post := by
  intro l hfl _ _ p e ha hc hk s m args below hf hA hF happ hP
  obtain ⟨hcalls, hrest, hpre⟩ := hP
  obtain ⟨-, -, -, hnamed, -, -, -, hat⟩ := (Spec.applies_iff hf).mp happ
  obtain ⟨hg, hn⟩ := and_e (Cond.before_iff.mp (show (Jvm.Cond.and given_1 narrow_1).before args s = true from hpre))
  obtain ⟨hg1, hg⟩ := and_e hg
  obtain ⟨hg2, hg⟩ := and_e hg
  obtain ⟨hg3, hg⟩ := and_e hg
  have hg4 := hg
  obtain ⟨hn1, hn⟩ := and_e hn
  obtain ⟨hn2, hn⟩ := and_e hn
  obtain ⟨hn3, hn⟩ := and_e hn
  obtain ⟨hn4, hn⟩ := and_e hn
  obtain ⟨hn5, hn⟩ := and_e hn
  obtain ⟨hn6, hn⟩ := and_e hn
  obtain ⟨hn7, hn⟩ := and_e hn
  obtain ⟨hn8, hn⟩ := and_e hn
  obtain ⟨hn9, hn⟩ := and_e hn
  obtain ⟨hn10, hn⟩ := and_e hn
  obtain ⟨hn11, hn⟩ := and_e hn
  have hn12 := hn
  obtain ⟨w0, w1, w2, rfl⟩ : ∃ w0 w1 w2 : Value, args = #[w0, w1, w2] := by
    have hs : args.size = 3 := by simpa [Cond.value, given_1] using hg1
    obtain ⟨L⟩ := args
    match L, hs with
    | [w0, w1, w2], _ => exact ⟨w0, w1, w2, rfl⟩
  have hw := fun d (hd : d ∈ tables_1) => atoms_spec (ws := Jvm.Cond.code x code maxLocals ret :: tables_1) hat d (List.mem_cons_of_mem _ hd)
  have hsets := (atoms_of jdkStatics_1 (show (jdkStatics_1.foldr Jvm.Cond.and restOwn_1).before _ s = true from hrest)).1
  obtain ⟨i0, e0⟩ := is_v hg2
  obtain rfl : w0 = (.int i0) := Option.some.inj e0
  obtain ⟨i1, e1⟩ := is_v hg3
  obtain rfl : w1 = (.int i1) := Option.some.inj e1
  obtain ⟨i2, e2⟩ := is_v hg4
  obtain rfl : w2 = (.int i2) := Option.some.inj e2
  have hfit : Fit s := fun {y c} hc i hi => by
    obtain ⟨ha, rfl⟩ := Array.getElem?_eq_some_iff.mp hc
    have q := List.all_eq_true.mp ((Array.all_eq_true_iff_forall_mem.mp hF) _ (Array.getElem_mem ha)) i (List.mem_range.mpr hi)
    simpa [Array.getElem?_eq_getElem hi] using q
  obtain ⟨o0, ev0⟩ := exa_v hn1
  have E0 := Exa.start ev0 hn1
  have S0 := Sta.start ev0 (Or.inr ⟨(w6 hw), (w7 hw)⟩)
  obtain ⟨o1, ev1⟩ := exa_v hn2
  have E1 := Exa.start ev1 hn2
  have S1 := Sta.start ev1 (Or.inr ⟨(w6 hw), (w108 hw)⟩)
  obtain ⟨o2, ev2⟩ := exa_v hn11
  have E2 := Exa.start ev2 hn11
  have S2 := Sta.start ev2 (Or.inr ⟨(w6 hw), (w127 hw)⟩)
  obtain ⟨o3, ev3⟩ := exa_v hn7
  have E3 := Exa.start ev3 hn7
  have S3 := Sta.start ev3 (Or.inr ⟨(w6 hw), (w118 hw)⟩)
  obtain ⟨o4, ev4⟩ := exa_v hn9
  have E4 := Exa.start ev4 hn9
  have S4 := Sta.start ev4 (Or.inr ⟨(w6 hw), (w123 hw)⟩)
  obtain ⟨o5, ev5⟩ := exa_v hn10
  have E5 := Exa.start ev5 hn10
  have S5 := Sta.start ev5 (Or.inr ⟨(w6 hw), (w125 hw)⟩)
  obtain ⟨o6, ev6⟩ := exa_v hn5
  have E6 := Exa.start ev6 hn5
  have S6 := Sta.start ev6 (Or.inr ⟨(w6 hw), (w114 hw)⟩)
  obtain ⟨o7, ev7⟩ := exa_v hn6
  have E7 := Exa.start ev7 hn6
  have S7 := Sta.start ev7 (Or.inr ⟨(w6 hw), (w116 hw)⟩)
  obtain ⟨o8, ev8⟩ := exa_v hn3
  have E8 := Exa.start ev8 hn3
  have S8 := Sta.start ev8 (Or.inr ⟨(w6 hw), (w110 hw)⟩)
  obtain ⟨o9, ev9⟩ := exa_v hn12
  have E9 := Exa.start ev9 hn12
  have S9 := Sta.start ev9 (Or.inr ⟨(w6 hw), (w129 hw)⟩)
  obtain ⟨o10, ev10⟩ := exa_v hn8
  have E10 := Exa.start ev10 hn8
  have S10 := Sta.start ev10 (Or.inr ⟨(w6 hw), (w121 hw)⟩)
  obtain ⟨o11, ev11⟩ := exa_v hn4
  have E11 := Exa.start ev11 hn4
  have S11 := Sta.start ev11 (Or.inr ⟨(w6 hw), (w112 hw)⟩)
  obtain ⟨zc, evc⟩ := is_v (Cond.before_iff.mp (hsets _ (List.mem_of_getElem? (i := 1) rfl)))
  have SC := Sta.start evc (Or.inl (hsets _ (List.mem_of_getElem? (i := 0) rfl)))
  have hzc : ¬ zc = (0 : Int32) := fun q => by
    have h1 := not_v (Cond.before_iff.mp (hsets _ (List.mem_of_getElem? (i := 2) rfl)))
    exact gotF (Cond.eq_ints evc (Term.int_eval 0)) h1 q
  have hCH : CHv s consts_1 s.vm s.heap := CHv.start (own_EW hw) (fun q hq => hcalls.1 q hq) (hsets _ (List.mem_of_getElem? (i := 2) rfl)) (own_strAtoms hw _ (by simp [Bundle.stringAtoms])) (own_strAtoms hw _ (by simp [Bundle.stringAtoms, Bundle.sN]))
  obtain ⟨em, eve⟩ := exa_v (Cond.before_iff.mp (hsets _ (List.mem_of_getElem? (i := 11) rfl)))
  have EE := Exa.start eve (Cond.before_iff.mp (hsets _ (List.mem_of_getElem? (i := 11) rfl)))
  have SE := Sta.start eve (Or.inl (hsets _ (List.mem_of_getElem? (i := 10) rfl)))
  have FE : Fld s s.heap em "java/util/Optional" "value" "Ljava/lang/Object;" .null := Fld.start ((fld_at eve).symm.trans (null_v (Cond.before_iff.mp (hsets _ (List.mem_of_getElem? (i := 12) rfl)))))
  obtain ⟨n, o, g1, g2, g3, _, L, rfl, ⟨rfl, N⟩, hq⟩ := rm_law l s _ hw i0 i1 i2 zc o0 o1 o2 o3 o4 o5 o6 o7 o8 o9 o10 o11 em s.heap (Old.start s) S0 S1 S2 S3 S4 S5 S6 S7 S8 S9 S10 S11 E0 E1 E2 E3 E4 E5 E6 E7 E8 E9 E10 E11 SC hzc SE EE FE tables_1 p e ha hc hk s m _ below hf ((Spec.applies_iff_loose hf).mp happ).1 ⟨rfl, State.Warmed39.refl s, rfl, hCH⟩ trivial
  refine ⟨n, _, g1, g2, g3, hpost _ _ _ _ _ _ ⟨Cond.after_iff.mpr rfl, Cond.after_iff.mpr (eq_i res_at (Term.int_eval (1)) rfl), trivial⟩ ⟨hq.1, hq.2.1, hq.2.2.1, (hq.2.2.2.sift fun y hy => Or.inr (N y hy)).mono (by decide) (by decide)⟩⟩
theorem main_1_1 : Claimed_1_1 := comes_1 fun _ _ _ _ _ _ h hF => ⟨h.1, hF⟩
theorem main_1_2 : Claimed_1_2 := comes_1 fun _ _ _ _ _ _ h hF => ⟨h.2.1, hF⟩
end Jvm.Pilot.@@N@@
namespace Jvm.Pilot.@@N@@
open Jvm Jvm.ClassFile Sem Op Lib Jvm.Free Jvm.Stand Jvm.Pilot.@@N@@.Jvm.D
/-! MADE BY PROGRAM (witnessworld.py) out of the Statement's table words and the real class files: 24 classes; the members and pool entries that the words name. The judged class is class 1, her method 3. -/
namespace start1
open Jvm.ClassFile
def u (s : String) : CpInfo := .utf8 (stringToUtf16 s)
/-- a pool by its gaps: so many unusable entries, then the entry; so many at the end -/
def gap : Nat → List CpInfo → List CpInfo
  | 0, r => r
  | n + 1, r => .unusable :: gap n r
def poolList (es : List (Nat × CpInfo)) (last : Nat) : List CpInfo := es.foldr (fun e r => gap e.1 (e.2 :: r)) (gap last [])
def pool (es : List (Nat × CpInfo)) (last : Nat) : Array CpInfo := ⟨poolList es last⟩
def fileOf (pool : Array CpInfo) (this : Nat) (attrs : Array Attribute := #[]) (ms : Array MethodInfo := #[]) (fl : Nat := 33) (sup : Nat := 0) (ifs : Array Nat := #[]) (fds : Array FieldInfo := #[]) : ClassFile where
  minorVersion := 0
  majorVersion := 65
  constantPool := pool
  accessFlags := fl
  thisClass := this
  superClass := sup
  interfaces := ifs
  fields := fds
  methods := ms
  attributes := attrs
def plain (name : String) (sup : Option ClassId) : Class where
  name := name
  kind := .ordinary
  loader := none
  accessFlags := 33
  super := sup
  interfaces := #[]
  cf := none
  fields := #[]
  methods := #[]
  instanceTypes := #[]
  staticTypes := #[]
  resolved := #[]
  callSites := []
  init := .initialized
  statics := none
  mirror := none

def pool0 : Array CpInfo := pool [(5, u "<init>"), (0, u "()V"), (1, .class_ 10), (1, u "java/lang/Object")] 113

def k0c0 : Code := { maxStack := 0, maxLocals := 1, code := object_method_1_code, exceptionTable := #[], attributes := #[] }
def k0m0 : Method := { name := "<init>", desc := "()V", sig := { parameters := [], returnType := none }, accessFlags := 1, code := some k0c0 }
/-- java/lang/Object -/
def k0 : Class := { plain "java/lang/Object" none with
  accessFlags := 33
  interfaces := #[]
  cf := some (fileOf pool0 8 #[] #[{ accessFlags := 1, nameIndex := 5, descriptorIndex := 6, attributes := #[] }] 33 0 #[] #[])
  fields := #[]
  methods := #[k0m0]
  instanceTypes := #[]
  staticTypes := #[]
  resolved := Array.replicate 124 none
  statics := none }

def pool1 : Array CpInfo := pool [(2, .class_ 4), (1, u "java/lang/Object"), (0, u "<init>"), (0, u "()V"), (0, .fieldref 8 9), (0, .class_ 10), (0, .nameAndType 11 12), (0, u "com/example/frugal_scheduler/frugalscheduler/plan/Rule"), (0, u "TASK_MISSING"), (0, u "Lcom/example/frugal_scheduler/frugalscheduler/plan/Rule;"), (0, .fieldref 8 14), (0, .nameAndType 15 12), (0, u "TASK_DUPLICATE"), (0, .fieldref 8 17), (0, .nameAndType 18 12), (0, u "UNKNOWN_TASK"), (0, .fieldref 8 20), (0, .nameAndType 21 12), (0, u "UNKNOWN_VM"), (0, .fieldref 8 23), (0, .nameAndType 24 12), (0, u "UNKNOWN_TYPE"), (0, .fieldref 8 26), (0, .nameAndType 27 12), (0, u "BEFORE_READY"), (0, .fieldref 8 29), (0, .nameAndType 30 12), (0, u "PRECEDENCE"), (0, .fieldref 8 32), (0, .nameAndType 33 12), (0, u "DURATION"), (0, .fieldref 8 35), (0, .nameAndType 36 12), (0, u "OVERLAP"), (0, .fieldref 8 38), (0, .nameAndType 39 12), (0, u "RELEASE_EARLY"), (0, .fieldref 8 41), (0, .nameAndType 42 12), (0, u "COST_MISMATCH"), (0, .fieldref 8 44), (0, .nameAndType 45 12), (0, u "MAKESPAN_MISMATCH"), (0, .class_ 47), (0, u "java/lang/String"), (0, .methodref 46 49), (0, .nameAndType 5 50), (0, u "([C)V"), (0, .integer 2147483647), (0, .methodref 53 54), (0, .class_ 55), (0, .nameAndType 56 57), (0, u "com/example/frugal_scheduler/frugalscheduler/plan/ViolationOfPlanPinLaw"), (0, u "pick"), (0, u "(I)Lcom/example/frugal_scheduler/frugalscheduler/plan/Rule;"), (0, .methodref 53 59), (0, .nameAndType 60 61), (0, u "text"), (0, u "(ICCC)Ljava/lang/String;"), (0, .methodref 63 64), (0, .class_ 65), (0, .nameAndType 66 67), (0, u "com/example/frugal_scheduler/frugalscheduler/plan/Violation"), (0, u "ofPlan"), (0, u "(Lcom/example/frugal_scheduler/frugalscheduler/plan/Rule;Ljava/lang/String;)Lcom/example/frugal_scheduler/frugalscheduler/plan/Violation;"), (0, .methodref 63 69), (0, .nameAndType 70 71), (0, u "getRule"), (0, u "()Lcom/example/frugal_scheduler/frugalscheduler/plan/Rule;"), (0, .methodref 63 73), (0, .nameAndType 74 75), (0, u "getMessage"), (0, u "()Ljava/lang/String;"), (0, .methodref 46 77), (0, .nameAndType 78 79), (0, u "equals"), (0, u "(Ljava/lang/Object;)Z"), (0, .methodref 63 81), (0, .nameAndType 82 83), (0, u "getTask"), (0, u "()Ljava/util/Optional;"), (0, .methodref 85 86), (0, .class_ 87), (0, .nameAndType 88 89), (0, u "java/util/Optional"), (0, u "isPresent"), (0, u "()Z"), (0, .methodref 63 91), (0, .nameAndType 92 83), (0, u "getVm"), (3, u "law"), (0, u "(III)Z")] 2

def k1m0 : Method := { name := "<init>", desc := "()V", sig := { parameters := [], returnType := none }, accessFlags := 1, code := none }
def k1c1 : Code := { maxStack := 2, maxLocals := 1, code := method_2_code, exceptionTable := #[], attributes := #[] }
def k1m1 : Method := { name := "pick", desc := "(I)Lcom/example/frugal_scheduler/frugalscheduler/plan/Rule;", sig := { parameters := [.int], returnType := some (.object "com/example/frugal_scheduler/frugalscheduler/plan/Rule") }, accessFlags := 10, code := some k1c1 }
def k1c2 : Code := { maxStack := 6, maxLocals := 4, code := method_3_code, exceptionTable := #[], attributes := #[] }
def k1m2 : Method := { name := "text", desc := "(ICCC)Ljava/lang/String;", sig := { parameters := [.int, .char, .char, .char], returnType := some (.object "java/lang/String") }, accessFlags := 10, code := some k1c2 }
def k1c3 : Code := { maxStack := 4, maxLocals := 13, code := code, exceptionTable := #[], attributes := #[] }
def k1m3 : Method := { name := "law", desc := "(III)Z", sig := { parameters := [.int, .int, .int], returnType := some .boolean }, accessFlags := 9, code := some k1c3 }
/-- com/example/frugal_scheduler/frugalscheduler/plan/ViolationOfPlanPinLaw -/
def k1 : Class := { plain "com/example/frugal_scheduler/frugalscheduler/plan/ViolationOfPlanPinLaw" (some 0) with
  accessFlags := 49
  interfaces := #[]
  cf := some (fileOf pool1 53 #[] #[{ accessFlags := 1, nameIndex := 5, descriptorIndex := 6, attributes := #[] }, { accessFlags := 10, nameIndex := 56, descriptorIndex := 57, attributes := #[] }, { accessFlags := 10, nameIndex := 60, descriptorIndex := 61, attributes := #[] }, { accessFlags := 9, nameIndex := 96, descriptorIndex := 97, attributes := #[] }] 49 2 #[] #[])
  fields := #[]
  methods := #[k1m0, k1m1, k1m2, k1m3]
  instanceTypes := #[]
  staticTypes := #[]
  resolved := Array.replicate 100 none
  statics := none }

def pool2 : Array CpInfo := pool [(1, .class_ 2), (0, u "java/lang/constant/Constable"), (0, .class_ 4), (0, u "java/lang/Object")] 6

/-- java/lang/constant/Constable -/
def k2 : Class := { plain "java/lang/constant/Constable" (some 0) with
  accessFlags := 1537
  interfaces := #[]
  cf := some (fileOf pool2 1 #[] #[] 1537 3 #[] #[])
  fields := #[]
  methods := #[]
  instanceTypes := #[]
  staticTypes := #[]
  resolved := Array.replicate 11 none
  statics := none }

def pool3 : Array CpInfo := pool [(1, .class_ 2), (0, u "java/lang/Comparable"), (0, .class_ 4), (0, u "java/lang/Object")] 7

/-- java/lang/Comparable -/
def k3 : Class := { plain "java/lang/Comparable" (some 0) with
  accessFlags := 1537
  interfaces := #[]
  cf := some (fileOf pool3 1 #[] #[] 1537 3 #[] #[])
  fields := #[]
  methods := #[]
  instanceTypes := #[]
  staticTypes := #[]
  resolved := Array.replicate 12 none
  statics := none }

def pool4 : Array CpInfo := pool [(1, .class_ 2), (0, u "java/io/Serializable"), (0, .class_ 4), (0, u "java/lang/Object")] 2

/-- java/io/Serializable -/
def k4 : Class := { plain "java/io/Serializable" (some 0) with
  accessFlags := 1537
  interfaces := #[]
  cf := some (fileOf pool4 1 #[] #[] 1537 3 #[] #[])
  fields := #[]
  methods := #[]
  instanceTypes := #[]
  staticTypes := #[]
  resolved := Array.replicate 7 none
  statics := none }

def pool5 : Array CpInfo := pool [(2, .class_ 4), (1, u "java/lang/Enum"), (0, u "name"), (0, u "Ljava/lang/String;"), (2, u "ordinal"), (0, u "I"), (1, .class_ 14), (1, u "java/lang/Object"), (4, u "hash"), (86, .class_ 108), (1, u "java/lang/Enum$EnumDesc"), (2, .class_ 112), (0, u "java/lang/constant/Constable"), (0, .class_ 114), (0, u "java/lang/Comparable"), (0, .class_ 116), (0, u "java/io/Serializable")] 87

/-- java/lang/Enum -/
def k5 : Class := { plain "java/lang/Enum" (some 0) with
  accessFlags := 1057
  interfaces := #[2, 3, 4]
  cf := some (fileOf pool5 2 #[.nestMembers #[106]] #[] 1057 12 #[111, 113, 115] #[{ accessFlags := 18, nameIndex := 5, descriptorIndex := 6, attributes := #[] }, { accessFlags := 18, nameIndex := 9, descriptorIndex := 10, attributes := #[] }, { accessFlags := 2, nameIndex := 19, descriptorIndex := 10, attributes := #[] }])
  fields := #[{ name := "name", type := (.object "java/lang/String"), accessFlags := 18, slot := 0, constantValue := 0 }, { name := "ordinal", type := .int, accessFlags := 18, slot := 1, constantValue := 0 }, { name := "hash", type := .int, accessFlags := 2, slot := 2, constantValue := 0 }]
  methods := #[]
  instanceTypes := #[(.object "java/lang/String"), .int, .int]
  staticTypes := #[]
  resolved := Array.replicate 204 none
  statics := none }

def pool6 : Array CpInfo := pool [(1, .class_ 2), (0, u "com/example/frugal_scheduler/frugalscheduler/plan/Rule"), (2, u "TASK_MISSING"), (0, u "Lcom/example/frugal_scheduler/frugalscheduler/plan/Rule;"), (2, u "TASK_DUPLICATE"), (2, u "UNKNOWN_TASK"), (2, u "UNKNOWN_VM"), (2, u "UNKNOWN_TYPE"), (2, u "BEFORE_READY"), (2, u "PRECEDENCE"), (2, u "DURATION"), (2, u "OVERLAP"), (2, u "RELEASE_EARLY"), (2, u "COST_MISMATCH"), (2, u "MAKESPAN_MISMATCH"), (2, u "$VALUES"), (0, u "[Lcom/example/frugal_scheduler/frugalscheduler/plan/Rule;"), (6, .class_ 52), (1, u "java/lang/Enum")] 34

/-- com/example/frugal_scheduler/frugalscheduler/plan/Rule -/
def k6 : Class := { plain "com/example/frugal_scheduler/frugalscheduler/plan/Rule" (some 5) with
  accessFlags := 16433
  interfaces := #[]
  cf := some (fileOf pool6 1 #[] #[] 16433 50 #[] #[{ accessFlags := 16409, nameIndex := 5, descriptorIndex := 6, attributes := #[] }, { accessFlags := 16409, nameIndex := 9, descriptorIndex := 6, attributes := #[] }, { accessFlags := 16409, nameIndex := 12, descriptorIndex := 6, attributes := #[] }, { accessFlags := 16409, nameIndex := 15, descriptorIndex := 6, attributes := #[] }, { accessFlags := 16409, nameIndex := 18, descriptorIndex := 6, attributes := #[] }, { accessFlags := 16409, nameIndex := 21, descriptorIndex := 6, attributes := #[] }, { accessFlags := 16409, nameIndex := 24, descriptorIndex := 6, attributes := #[] }, { accessFlags := 16409, nameIndex := 27, descriptorIndex := 6, attributes := #[] }, { accessFlags := 16409, nameIndex := 30, descriptorIndex := 6, attributes := #[] }, { accessFlags := 16409, nameIndex := 33, descriptorIndex := 6, attributes := #[] }, { accessFlags := 16409, nameIndex := 36, descriptorIndex := 6, attributes := #[] }, { accessFlags := 16409, nameIndex := 39, descriptorIndex := 6, attributes := #[] }, { accessFlags := 4122, nameIndex := 42, descriptorIndex := 43, attributes := #[] }])
  fields := #[{ name := "TASK_MISSING", type := (.object "com/example/frugal_scheduler/frugalscheduler/plan/Rule"), accessFlags := 16409, slot := 0, constantValue := 0 }, { name := "TASK_DUPLICATE", type := (.object "com/example/frugal_scheduler/frugalscheduler/plan/Rule"), accessFlags := 16409, slot := 1, constantValue := 0 }, { name := "UNKNOWN_TASK", type := (.object "com/example/frugal_scheduler/frugalscheduler/plan/Rule"), accessFlags := 16409, slot := 2, constantValue := 0 }, { name := "UNKNOWN_VM", type := (.object "com/example/frugal_scheduler/frugalscheduler/plan/Rule"), accessFlags := 16409, slot := 3, constantValue := 0 }, { name := "UNKNOWN_TYPE", type := (.object "com/example/frugal_scheduler/frugalscheduler/plan/Rule"), accessFlags := 16409, slot := 4, constantValue := 0 }, { name := "BEFORE_READY", type := (.object "com/example/frugal_scheduler/frugalscheduler/plan/Rule"), accessFlags := 16409, slot := 5, constantValue := 0 }, { name := "PRECEDENCE", type := (.object "com/example/frugal_scheduler/frugalscheduler/plan/Rule"), accessFlags := 16409, slot := 6, constantValue := 0 }, { name := "DURATION", type := (.object "com/example/frugal_scheduler/frugalscheduler/plan/Rule"), accessFlags := 16409, slot := 7, constantValue := 0 }, { name := "OVERLAP", type := (.object "com/example/frugal_scheduler/frugalscheduler/plan/Rule"), accessFlags := 16409, slot := 8, constantValue := 0 }, { name := "RELEASE_EARLY", type := (.object "com/example/frugal_scheduler/frugalscheduler/plan/Rule"), accessFlags := 16409, slot := 9, constantValue := 0 }, { name := "COST_MISMATCH", type := (.object "com/example/frugal_scheduler/frugalscheduler/plan/Rule"), accessFlags := 16409, slot := 10, constantValue := 0 }, { name := "MAKESPAN_MISMATCH", type := (.object "com/example/frugal_scheduler/frugalscheduler/plan/Rule"), accessFlags := 16409, slot := 11, constantValue := 0 }, { name := "$VALUES", type := (.array (.object "com/example/frugal_scheduler/frugalscheduler/plan/Rule")), accessFlags := 4122, slot := 12, constantValue := 0 }]
  methods := #[]
  instanceTypes := #[(.object "java/lang/String"), .int, .int]
  staticTypes := #[(.object "com/example/frugal_scheduler/frugalscheduler/plan/Rule"), (.object "com/example/frugal_scheduler/frugalscheduler/plan/Rule"), (.object "com/example/frugal_scheduler/frugalscheduler/plan/Rule"), (.object "com/example/frugal_scheduler/frugalscheduler/plan/Rule"), (.object "com/example/frugal_scheduler/frugalscheduler/plan/Rule"), (.object "com/example/frugal_scheduler/frugalscheduler/plan/Rule"), (.object "com/example/frugal_scheduler/frugalscheduler/plan/Rule"), (.object "com/example/frugal_scheduler/frugalscheduler/plan/Rule"), (.object "com/example/frugal_scheduler/frugalscheduler/plan/Rule"), (.object "com/example/frugal_scheduler/frugalscheduler/plan/Rule"), (.object "com/example/frugal_scheduler/frugalscheduler/plan/Rule"), (.object "com/example/frugal_scheduler/frugalscheduler/plan/Rule"), (.array (.object "com/example/frugal_scheduler/frugalscheduler/plan/Rule"))]
  resolved := Array.replicate 87 none
  statics := some 0 }

def pool7 : Array CpInfo := pool [(2, .class_ 4), (1, u "java/lang/CharSequence"), (42, .class_ 48), (0, u "java/lang/CharSequence$1CodePointIterator"), (10, .class_ 60), (0, u "java/lang/CharSequence$1CharIterator"), (5, .class_ 67), (0, u "java/lang/Object")] 63

/-- java/lang/CharSequence -/
def k7 : Class := { plain "java/lang/CharSequence" (some 0) with
  accessFlags := 1537
  interfaces := #[]
  cf := some (fileOf pool7 2 #[.nestMembers #[47, 59]] #[] 1537 66 #[] #[])
  fields := #[]
  methods := #[]
  instanceTypes := #[]
  staticTypes := #[]
  resolved := Array.replicate 131 none
  statics := none }

def pool8 : Array CpInfo := pool [(1, .class_ 2), (0, u "java/lang/constant/ConstantDesc"), (0, .class_ 4), (0, u "java/lang/Object")] 32

/-- java/lang/constant/ConstantDesc -/
def k8 : Class := { plain "java/lang/constant/ConstantDesc" (some 0) with
  accessFlags := 1537
  interfaces := #[]
  cf := some (fileOf pool8 1 #[] #[] 1537 3 #[] #[])
  fields := #[]
  methods := #[]
  instanceTypes := #[]
  staticTypes := #[]
  resolved := Array.replicate 37 none
  statics := none }

def pool9 : Array CpInfo := pool [(1, .methodref 2 3), (0, .class_ 4), (0, .nameAndType 5 6), (0, u "java/lang/Object"), (0, u "<init>"), (0, u "()V"), (0, .string 8), (0, u ""), (0, .fieldref 10 11), (0, .class_ 12), (0, .nameAndType 13 14), (0, u "java/lang/String"), (0, u "value"), (0, u "[B"), (0, .fieldref 10 16), (0, .nameAndType 17 18), (0, u "coder"), (0, u "B"), (2, u "hash"), (0, u "I"), (2, u "hashIsZero"), (0, u "Z"), (0, .methodref 10 28), (0, .nameAndType 5 29), (0, u "([CIILjava/lang/Void;)V"), (8, .fieldref 10 39), (0, .nameAndType 40 26), (0, u "COMPACT_STRINGS"), (1, .class_ 44), (1, u "java/lang/StringUTF16"), (0, u "compress"), (1, .methodref 42 48), (0, .nameAndType 49 50), (0, u "coderFromArrayLen"), (0, u "([BI)B"), (126, .methodref 42 178), (0, .nameAndType 45 179), (0, u "([CII)[B"), (363, u "equals"), (29, u "(Ljava/lang/Object;)Z"), (1, .class_ 576), (0, u "java/lang/CharSequence"), (22, u "CASE_INSENSITIVE_ORDER"), (0, u "Ljava/util/Comparator;"), (409, u "([C)V"), (90, u "serialPersistentFields"), (0, u "[Ljava/io/ObjectStreamField;"), (0, .class_ 1104), (0, u "java/lang/String$CaseInsensitiveComparator"), (1, .class_ 1107), (0, u "java/io/Serializable"), (0, .class_ 1109), (0, u "java/lang/Comparable"), (0, .class_ 1111), (0, u "java/lang/constant/Constable"), (0, .class_ 1113), (0, u "java/lang/constant/ConstantDesc"), (2, u "serialVersionUID"), (0, u "J"), (3, u "REPL"), (0, u "C"), (2, u "LATIN1"), (1, u "UTF16")] 323

def k9m0 : Method := { name := "<init>", desc := "()V", sig := { parameters := [], returnType := none }, accessFlags := 1, code := none }
def k9c1 : Code := { maxStack := 5, maxLocals := 2, code := jdk_42_method_3_code, exceptionTable := #[], attributes := #[] }
def k9m1 : Method := { name := "<init>", desc := "([C)V", sig := { parameters := [(.array .char)], returnType := none }, accessFlags := 1, code := some k9c1 }
def k9c2 : Code := { maxStack := 2, maxLocals := 3, code := jdk_42_method_66_code, exceptionTable := #[], attributes := #[] }
def k9m2 : Method := { name := "equals", desc := "(Ljava/lang/Object;)Z", sig := { parameters := [(.object "java/lang/Object")], returnType := some .boolean }, accessFlags := 1, code := some k9c2 }
def k9c3 : Code := { maxStack := 4, maxLocals := 6, code := jdk_42_method_149_code, exceptionTable := #[], attributes := #[] }
def k9m3 : Method := { name := "<init>", desc := "([CIILjava/lang/Void;)V", sig := { parameters := [(.array .char), .int, .int, (.object "java/lang/Void")], returnType := none }, accessFlags := 2, code := some k9c3 }
/-- java/lang/String -/
def k9 : Class := { plain "java/lang/String" (some 0) with
  accessFlags := 49
  interfaces := #[4, 3, 7, 2, 8]
  cf := some (fileOf pool9 10 #[.nestMembers #[1103]] #[{ accessFlags := 1, nameIndex := 5, descriptorIndex := 6, attributes := #[] }, { accessFlags := 1, nameIndex := 5, descriptorIndex := 1010, attributes := #[] }, { accessFlags := 1, nameIndex := 543, descriptorIndex := 573, attributes := #[] }, { accessFlags := 2, nameIndex := 5, descriptorIndex := 29, attributes := #[] }] 49 2 #[1106, 1108, 575, 1110, 1112] #[{ accessFlags := 18, nameIndex := 13, descriptorIndex := 14, attributes := #[] }, { accessFlags := 18, nameIndex := 17, descriptorIndex := 18, attributes := #[] }, { accessFlags := 2, nameIndex := 21, descriptorIndex := 22, attributes := #[] }, { accessFlags := 2, nameIndex := 25, descriptorIndex := 26, attributes := #[] }, { accessFlags := 26, nameIndex := 1116, descriptorIndex := 1117, attributes := #[] }, { accessFlags := 24, nameIndex := 40, descriptorIndex := 26, attributes := #[] }, { accessFlags := 26, nameIndex := 1101, descriptorIndex := 1102, attributes := #[] }, { accessFlags := 26, nameIndex := 1121, descriptorIndex := 1122, attributes := #[] }, { accessFlags := 25, nameIndex := 599, descriptorIndex := 600, attributes := #[] }, { accessFlags := 24, nameIndex := 1125, descriptorIndex := 18, attributes := #[] }, { accessFlags := 24, nameIndex := 1127, descriptorIndex := 18, attributes := #[] }])
  fields := #[{ name := "value", type := (.array .byte), accessFlags := 18, slot := 0, constantValue := 0 }, { name := "coder", type := .byte, accessFlags := 18, slot := 1, constantValue := 0 }, { name := "hash", type := .int, accessFlags := 2, slot := 2, constantValue := 0 }, { name := "hashIsZero", type := .boolean, accessFlags := 2, slot := 3, constantValue := 0 }, { name := "serialVersionUID", type := .long, accessFlags := 26, slot := 0, constantValue := 0 }, { name := "COMPACT_STRINGS", type := .boolean, accessFlags := 24, slot := 1, constantValue := 0 }, { name := "serialPersistentFields", type := (.array (.object "java/io/ObjectStreamField")), accessFlags := 26, slot := 2, constantValue := 0 }, { name := "REPL", type := .char, accessFlags := 26, slot := 3, constantValue := 0 }, { name := "CASE_INSENSITIVE_ORDER", type := (.object "java/util/Comparator"), accessFlags := 25, slot := 4, constantValue := 0 }, { name := "LATIN1", type := .byte, accessFlags := 24, slot := 5, constantValue := 0 }, { name := "UTF16", type := .byte, accessFlags := 24, slot := 6, constantValue := 0 }]
  methods := #[k9m0, k9m1, k9m2, k9m3]
  instanceTypes := #[(.array .byte), .byte, .int, .boolean]
  staticTypes := #[.long, .boolean, (.array (.object "java/io/ObjectStreamField")), .char, (.object "java/util/Comparator"), .byte, .byte]
  resolved := Array.replicate 1451 none
  statics := some 1 }

def pool10 : Array CpInfo := pool [(6, .class_ 8), (1, u "java/lang/Object"), (0, u "<init>"), (0, u "()V"), (1, .class_ 14), (1, u "java/lang/StringUTF16"), (31, u "$assertionsDisabled"), (0, u "Z"), (13, u "HI_BYTE_SHIFT"), (0, u "I"), (2, u "LO_BYTE_SHIFT"), (49, .methodref 12 116), (0, .nameAndType 117 118), (0, u "compress"), (0, u "([CI[BII)I"), (3, u "([CII)[B"), (138, u "coderFromArrayLen"), (0, u "([BI)B"), (106, .class_ 371), (1, u "java/lang/StringUTF16$LinesSpliterator"), (58, u "MAX_LENGTH"), (196, .class_ 628), (0, u "java/lang/StringUTF16$CodePointsSpliterator"), (0, .class_ 630), (0, u "java/lang/StringUTF16$CharsSpliterator")] 4

def k10m0 : Method := { name := "<init>", desc := "()V", sig := { parameters := [], returnType := none }, accessFlags := 0, code := none }
def k10c1 : Code := { maxStack := 2, maxLocals := 2, code := jdk_52_method_15_code, exceptionTable := #[], attributes := #[] }
def k10m1 : Method := { name := "coderFromArrayLen", desc := "([BI)B", sig := { parameters := [(.array .byte), .int], returnType := some .byte }, accessFlags := 8, code := some k10c1 }
def k10c2 : Code := { maxStack := 5, maxLocals := 6, code := jdk_52_method_16_code, exceptionTable := #[], attributes := #[] }
def k10m2 : Method := { name := "compress", desc := "([CII)[B", sig := { parameters := [(.array .char), .int, .int], returnType := some (.array .byte) }, accessFlags := 9, code := some k10c2 }
def k10c3 : Code := { maxStack := 3, maxLocals := 7, code := jdk_52_method_21_code, exceptionTable := #[], attributes := #[] }
def k10m3 : Method := { name := "compress", desc := "([CI[BII)I", sig := { parameters := [(.array .char), .int, (.array .byte), .int, .int], returnType := some .int }, accessFlags := 9, code := some k10c3 }
/-- java/lang/StringUTF16 -/
def k10 : Class := { plain "java/lang/StringUTF16" (some 0) with
  accessFlags := 48
  interfaces := #[]
  cf := some (fileOf pool10 12 #[.nestMembers #[627, 629, 369]] #[{ accessFlags := 0, nameIndex := 9, descriptorIndex := 10, attributes := #[] }, { accessFlags := 8, nameIndex := 261, descriptorIndex := 262, attributes := #[] }, { accessFlags := 9, nameIndex := 117, descriptorIndex := 122, attributes := #[] }, { accessFlags := 9, nameIndex := 117, descriptorIndex := 118, attributes := #[] }] 48 6 #[] #[{ accessFlags := 26, nameIndex := 61, descriptorIndex := 62, attributes := #[] }, { accessFlags := 26, nameIndex := 65, descriptorIndex := 62, attributes := #[] }, { accessFlags := 24, nameIndex := 430, descriptorIndex := 62, attributes := #[] }, { accessFlags := 4120, nameIndex := 46, descriptorIndex := 47, attributes := #[] }])
  fields := #[{ name := "HI_BYTE_SHIFT", type := .int, accessFlags := 26, slot := 0, constantValue := 0 }, { name := "LO_BYTE_SHIFT", type := .int, accessFlags := 26, slot := 1, constantValue := 0 }, { name := "MAX_LENGTH", type := .int, accessFlags := 24, slot := 2, constantValue := 0 }, { name := "$assertionsDisabled", type := .boolean, accessFlags := 4120, slot := 3, constantValue := 0 }]
  methods := #[k10m0, k10m1, k10m2, k10m3]
  instanceTypes := #[]
  staticTypes := #[.int, .int, .int, .boolean]
  resolved := Array.replicate 635 none
  statics := none }

def pool11 : Array CpInfo := pool [(1, .methodref 2 3), (0, .class_ 4), (0, .nameAndType 5 6), (0, u "java/lang/Object"), (0, u "<init>"), (0, u "()V"), (0, .string 8), (0, u "rule"), (0, .methodref 10 11), (0, .class_ 12), (0, .nameAndType 13 14), (0, u "java/util/Objects"), (0, u "requireNonNull"), (0, u "(Ljava/lang/Object;Ljava/lang/String;)Ljava/lang/Object;"), (0, .class_ 16), (0, u "com/example/frugal_scheduler/frugalscheduler/plan/Rule"), (0, .fieldref 18 19), (0, .class_ 20), (0, .nameAndType 8 21), (0, u "com/example/frugal_scheduler/frugalscheduler/plan/Violation"), (0, u "Lcom/example/frugal_scheduler/frugalscheduler/plan/Rule;"), (0, .fieldref 18 23), (0, .nameAndType 24 25), (0, u "task"), (0, u "Ljava/lang/String;"), (0, .fieldref 18 27), (0, .nameAndType 28 25), (0, u "vm"), (0, .string 30), (0, u "message"), (0, .class_ 32), (0, u "java/lang/String"), (0, .fieldref 18 34), (0, .nameAndType 30 25), (1, .methodref 18 37), (0, .nameAndType 5 38), (0, u "(Lcom/example/frugal_scheduler/frugalscheduler/plan/Rule;Ljava/lang/String;Ljava/lang/String;Ljava/lang/String;)V"), (1, .methodref 41 42), (0, .class_ 43), (0, .nameAndType 44 45), (0, u "java/util/Optional"), (0, u "ofNullable"), (0, u "(Ljava/lang/Object;)Ljava/util/Optional;"), (5, u "ofPlan"), (0, u "(Lcom/example/frugal_scheduler/frugalscheduler/plan/Rule;Ljava/lang/String;)Lcom/example/frugal_scheduler/frugalscheduler/plan/Violation;"), (0, u "getRule"), (0, u "()Lcom/example/frugal_scheduler/frugalscheduler/plan/Rule;"), (0, u "getTask"), (0, u "()Ljava/util/Optional;"), (2, u "getVm"), (0, u "getMessage"), (0, u "()Ljava/lang/String;")] 2

def k11c0 : Code := { maxStack := 3, maxLocals := 5, code := prog_12_method_1_code, exceptionTable := #[], attributes := #[] }
def k11m0 : Method := { name := "<init>", desc := "(Lcom/example/frugal_scheduler/frugalscheduler/plan/Rule;Ljava/lang/String;Ljava/lang/String;Ljava/lang/String;)V", sig := { parameters := [(.object "com/example/frugal_scheduler/frugalscheduler/plan/Rule"), (.object "java/lang/String"), (.object "java/lang/String"), (.object "java/lang/String")], returnType := none }, accessFlags := 2, code := some k11c0 }
def k11c1 : Code := { maxStack := 6, maxLocals := 2, code := prog_12_method_4_code, exceptionTable := #[], attributes := #[] }
def k11m1 : Method := { name := "ofPlan", desc := "(Lcom/example/frugal_scheduler/frugalscheduler/plan/Rule;Ljava/lang/String;)Lcom/example/frugal_scheduler/frugalscheduler/plan/Violation;", sig := { parameters := [(.object "com/example/frugal_scheduler/frugalscheduler/plan/Rule"), (.object "java/lang/String")], returnType := some (.object "com/example/frugal_scheduler/frugalscheduler/plan/Violation") }, accessFlags := 8, code := some k11c1 }
def k11c2 : Code := { maxStack := 1, maxLocals := 1, code := prog_12_method_5_code, exceptionTable := #[], attributes := #[] }
def k11m2 : Method := { name := "getRule", desc := "()Lcom/example/frugal_scheduler/frugalscheduler/plan/Rule;", sig := { parameters := [], returnType := some (.object "com/example/frugal_scheduler/frugalscheduler/plan/Rule") }, accessFlags := 1, code := some k11c2 }
def k11c3 : Code := { maxStack := 1, maxLocals := 1, code := prog_12_method_6_code, exceptionTable := #[], attributes := #[] }
def k11m3 : Method := { name := "getTask", desc := "()Ljava/util/Optional;", sig := { parameters := [], returnType := some (.object "java/util/Optional") }, accessFlags := 1, code := some k11c3 }
def k11c4 : Code := { maxStack := 1, maxLocals := 1, code := prog_12_method_7_code, exceptionTable := #[], attributes := #[] }
def k11m4 : Method := { name := "getVm", desc := "()Ljava/util/Optional;", sig := { parameters := [], returnType := some (.object "java/util/Optional") }, accessFlags := 1, code := some k11c4 }
def k11c5 : Code := { maxStack := 1, maxLocals := 1, code := prog_12_method_8_code, exceptionTable := #[], attributes := #[] }
def k11m5 : Method := { name := "getMessage", desc := "()Ljava/lang/String;", sig := { parameters := [], returnType := some (.object "java/lang/String") }, accessFlags := 1, code := some k11c5 }
/-- com/example/frugal_scheduler/frugalscheduler/plan/Violation -/
def k11 : Class := { plain "com/example/frugal_scheduler/frugalscheduler/plan/Violation" (some 0) with
  accessFlags := 33
  interfaces := #[]
  cf := some (fileOf pool11 18 #[] #[{ accessFlags := 2, nameIndex := 5, descriptorIndex := 38, attributes := #[] }, { accessFlags := 8, nameIndex := 51, descriptorIndex := 52, attributes := #[] }, { accessFlags := 1, nameIndex := 53, descriptorIndex := 54, attributes := #[] }, { accessFlags := 1, nameIndex := 55, descriptorIndex := 56, attributes := #[] }, { accessFlags := 1, nameIndex := 59, descriptorIndex := 56, attributes := #[] }, { accessFlags := 1, nameIndex := 60, descriptorIndex := 61, attributes := #[] }] 33 2 #[] #[{ accessFlags := 18, nameIndex := 8, descriptorIndex := 21, attributes := #[] }, { accessFlags := 18, nameIndex := 24, descriptorIndex := 25, attributes := #[] }, { accessFlags := 18, nameIndex := 28, descriptorIndex := 25, attributes := #[] }, { accessFlags := 18, nameIndex := 30, descriptorIndex := 25, attributes := #[] }])
  fields := #[{ name := "rule", type := (.object "com/example/frugal_scheduler/frugalscheduler/plan/Rule"), accessFlags := 18, slot := 0, constantValue := 0 }, { name := "task", type := (.object "java/lang/String"), accessFlags := 18, slot := 1, constantValue := 0 }, { name := "vm", type := (.object "java/lang/String"), accessFlags := 18, slot := 2, constantValue := 0 }, { name := "message", type := (.object "java/lang/String"), accessFlags := 18, slot := 3, constantValue := 0 }]
  methods := #[k11m0, k11m1, k11m2, k11m3, k11m4, k11m5]
  instanceTypes := #[(.object "com/example/frugal_scheduler/frugalscheduler/plan/Rule"), (.object "java/lang/String"), (.object "java/lang/String"), (.object "java/lang/String")]
  staticTypes := #[]
  resolved := Array.replicate 64 none
  statics := none }

def pool12 : Array CpInfo := pool [(2, .class_ 4), (1, u "java/lang/Object"), (0, u "<init>"), (0, u "()V"), (35, .class_ 44), (1, u "java/util/Objects"), (0, u "requireNonNull"), (48, u "(Ljava/lang/Object;Ljava/lang/String;)Ljava/lang/Object;")] 89

def k12m0 : Method := { name := "<init>", desc := "()V", sig := { parameters := [], returnType := none }, accessFlags := 2, code := none }
def k12c1 : Code := { maxStack := 3, maxLocals := 2, code := jdk_31_method_11_code, exceptionTable := #[], attributes := #[] }
def k12m1 : Method := { name := "requireNonNull", desc := "(Ljava/lang/Object;Ljava/lang/String;)Ljava/lang/Object;", sig := { parameters := [(.object "java/lang/Object"), (.object "java/lang/String")], returnType := some (.object "java/lang/Object") }, accessFlags := 9, code := some k12c1 }
/-- java/util/Objects -/
def k12 : Class := { plain "java/util/Objects" (some 0) with
  accessFlags := 49
  interfaces := #[]
  cf := some (fileOf pool12 42 #[] #[{ accessFlags := 2, nameIndex := 5, descriptorIndex := 6, attributes := #[] }, { accessFlags := 9, nameIndex := 45, descriptorIndex := 94, attributes := #[] }] 49 2 #[] #[])
  fields := #[]
  methods := #[k12m0, k12m1]
  instanceTypes := #[]
  staticTypes := #[]
  resolved := Array.replicate 184 none
  statics := none }

def pool13 : Array CpInfo := pool [(1, .fieldref 2 3), (0, .class_ 4), (0, .nameAndType 5 6), (0, u "java/util/Optional"), (0, u "EMPTY"), (0, u "Ljava/util/Optional;"), (1, .class_ 10), (1, u "java/lang/Object"), (2, .fieldref 2 14), (0, .nameAndType 15 16), (0, u "value"), (0, u "Ljava/lang/Object;"), (29, u "()Z"), (17, u "ofNullable"), (0, u "(Ljava/lang/Object;)Ljava/util/Optional;"), (2, u "isPresent")] 118

def k13c0 : Code := { maxStack := 3, maxLocals := 1, code := jdk_32_method_4_code, exceptionTable := #[], attributes := #[] }
def k13m0 : Method := { name := "ofNullable", desc := "(Ljava/lang/Object;)Ljava/util/Optional;", sig := { parameters := [(.object "java/lang/Object")], returnType := some (.object "java/util/Optional") }, accessFlags := 9, code := some k13c0 }
def k13c1 : Code := { maxStack := 1, maxLocals := 1, code := jdk_32_method_6_code, exceptionTable := #[], attributes := #[] }
def k13m1 : Method := { name := "isPresent", desc := "()Z", sig := { parameters := [], returnType := some .boolean }, accessFlags := 1, code := some k13c1 }
/-- java/util/Optional -/
def k13 : Class := { plain "java/util/Optional" (some 0) with
  accessFlags := 49
  interfaces := #[]
  cf := some (fileOf pool13 2 #[] #[{ accessFlags := 9, nameIndex := 64, descriptorIndex := 65, attributes := #[] }, { accessFlags := 1, nameIndex := 68, descriptorIndex := 46, attributes := #[] }] 49 8 #[] #[{ accessFlags := 26, nameIndex := 5, descriptorIndex := 6, attributes := #[] }, { accessFlags := 18, nameIndex := 15, descriptorIndex := 16, attributes := #[] }])
  fields := #[{ name := "EMPTY", type := (.object "java/util/Optional"), accessFlags := 26, slot := 0, constantValue := 0 }, { name := "value", type := (.object "java/lang/Object"), accessFlags := 18, slot := 0, constantValue := 0 }]
  methods := #[k13m0, k13m1]
  instanceTypes := #[(.object "java/lang/Object")]
  staticTypes := #[(.object "java/util/Optional")]
  resolved := Array.replicate 187 none
  statics := some 2 }

def pool14 : Array CpInfo := pool [(4, .class_ 6), (1, u "java/lang/Object"), (0, u "<init>"), (0, u "()V"), (5, .class_ 16), (1, u "java/lang/StringLatin1"), (104, u "$assertionsDisabled"), (0, u "Z"), (98, .class_ 223), (1, u "java/lang/StringLatin1$LinesSpliterator"), (166, .class_ 391), (0, u "java/lang/StringLatin1$CharsSpliterator")] 3

def k14m0 : Method := { name := "<init>", desc := "()V", sig := { parameters := [], returnType := none }, accessFlags := 0, code := none }
/-- java/lang/StringLatin1 -/
def k14 : Class := { plain "java/lang/StringLatin1" (some 0) with
  accessFlags := 48
  interfaces := #[]
  cf := some (fileOf pool14 14 #[.nestMembers #[390, 221]] #[{ accessFlags := 0, nameIndex := 7, descriptorIndex := 8, attributes := #[] }] 48 4 #[] #[{ accessFlags := 4120, nameIndex := 121, descriptorIndex := 122, attributes := #[] }])
  fields := #[{ name := "$assertionsDisabled", type := .boolean, accessFlags := 4120, slot := 0, constantValue := 0 }]
  methods := #[k14m0]
  instanceTypes := #[]
  staticTypes := #[.boolean]
  resolved := Array.replicate 395 none
  statics := none }

def pool15 : Array CpInfo := pool [(2, .class_ 4), (1, u "java/lang/Object"), (0, u "<init>"), (0, u "()V"), (17, .class_ 26), (1, u "jdk/internal/util/Preconditions"), (28, .class_ 56), (0, u "jdk/internal/util/Preconditions$4"), (57, .class_ 115), (0, u "jdk/internal/util/Preconditions$1"), (7, u "SIOOBE_FORMATTER"), (0, u "Ljava/util/function/BiFunction;"), (0, .class_ 126), (0, u "jdk/internal/util/Preconditions$2"), (3, u "AIOOBE_FORMATTER"), (0, .class_ 132), (0, u "jdk/internal/util/Preconditions$3"), (3, u "IOOBE_FORMATTER")] 57

def k15m0 : Method := { name := "<init>", desc := "()V", sig := { parameters := [], returnType := none }, accessFlags := 1, code := none }
/-- jdk/internal/util/Preconditions -/
def k15 : Class := { plain "jdk/internal/util/Preconditions" (some 0) with
  accessFlags := 33
  interfaces := #[]
  cf := some (fileOf pool15 24 #[.nestMembers #[55, 131, 125, 114]] #[{ accessFlags := 1, nameIndex := 5, descriptorIndex := 6, attributes := #[] }] 33 2 #[] #[{ accessFlags := 25, nameIndex := 123, descriptorIndex := 124, attributes := #[] }, { accessFlags := 25, nameIndex := 130, descriptorIndex := 124, attributes := #[] }, { accessFlags := 25, nameIndex := 136, descriptorIndex := 124, attributes := #[] }])
  fields := #[{ name := "SIOOBE_FORMATTER", type := (.object "java/util/function/BiFunction"), accessFlags := 25, slot := 0, constantValue := 0 }, { name := "AIOOBE_FORMATTER", type := (.object "java/util/function/BiFunction"), accessFlags := 25, slot := 1, constantValue := 0 }, { name := "IOOBE_FORMATTER", type := (.object "java/util/function/BiFunction"), accessFlags := 25, slot := 2, constantValue := 0 }]
  methods := #[k15m0]
  instanceTypes := #[]
  staticTypes := #[(.object "java/util/function/BiFunction"), (.object "java/util/function/BiFunction"), (.object "java/util/function/BiFunction")]
  resolved := Array.replicate 194 none
  statics := some 3 }

def pool16 : Array CpInfo := pool [(9, u "<init>"), (6, .class_ 18), (1, u "java/lang/Object"), (0, u "()V"), (1, .class_ 23), (1, u "jdk/internal/util/ArraysSupport"), (0, u "LOG2_ARRAY_LONG_INDEX_SCALE"), (0, u "I"), (2, u "U"), (0, u "Ljdk/internal/misc/Unsafe;"), (8, u "BIG_ENDIAN"), (0, u "Z"), (8, u "LOG2_BYTE_BIT_SIZE"), (4, u "LOG2_ARRAY_INT_INDEX_SCALE"), (54, u "JLA"), (0, u "Ljdk/internal/access/JavaLangAccess;"), (11, u "LOG2_ARRAY_BOOLEAN_INDEX_SCALE"), (9, u "LOG2_ARRAY_BYTE_INDEX_SCALE"), (5, u "LOG2_ARRAY_CHAR_INDEX_SCALE"), (5, u "LOG2_ARRAY_SHORT_INDEX_SCALE"), (18, u "LOG2_ARRAY_FLOAT_INDEX_SCALE"), (24, u "LOG2_ARRAY_DOUBLE_INDEX_SCALE"), (89, u "T_BOOLEAN"), (2, u "T_CHAR"), (1, u "T_FLOAT"), (1, u "T_DOUBLE"), (1, u "T_BYTE"), (1, u "T_SHORT"), (1, u "T_INT"), (1, u "T_LONG"), (1, u "SOFT_MAX_ARRAY_LENGTH")] 83

def k16m0 : Method := { name := "<init>", desc := "()V", sig := { parameters := [], returnType := none }, accessFlags := 2, code := none }
/-- jdk/internal/util/ArraysSupport -/
def k16 : Class := { plain "jdk/internal/util/ArraysSupport" (some 0) with
  accessFlags := 33
  interfaces := #[]
  cf := some (fileOf pool16 21 #[] #[{ accessFlags := 2, nameIndex := 9, descriptorIndex := 19, attributes := #[] }] 33 16 #[] #[{ accessFlags := 24, nameIndex := 28, descriptorIndex := 29, attributes := #[] }, { accessFlags := 26, nameIndex := 38, descriptorIndex := 39, attributes := #[] }, { accessFlags := 25, nameIndex := 121, descriptorIndex := 25, attributes := #[] }, { accessFlags := 25, nameIndex := 131, descriptorIndex := 25, attributes := #[] }, { accessFlags := 25, nameIndex := 137, descriptorIndex := 25, attributes := #[] }, { accessFlags := 25, nameIndex := 143, descriptorIndex := 25, attributes := #[] }, { accessFlags := 25, nameIndex := 53, descriptorIndex := 25, attributes := #[] }, { accessFlags := 25, nameIndex := 24, descriptorIndex := 25, attributes := #[] }, { accessFlags := 25, nameIndex := 162, descriptorIndex := 25, attributes := #[] }, { accessFlags := 25, nameIndex := 187, descriptorIndex := 25, attributes := #[] }, { accessFlags := 26, nameIndex := 48, descriptorIndex := 25, attributes := #[] }, { accessFlags := 25, nameIndex := 277, descriptorIndex := 25, attributes := #[] }, { accessFlags := 25, nameIndex := 280, descriptorIndex := 25, attributes := #[] }, { accessFlags := 25, nameIndex := 282, descriptorIndex := 25, attributes := #[] }, { accessFlags := 25, nameIndex := 284, descriptorIndex := 25, attributes := #[] }, { accessFlags := 25, nameIndex := 286, descriptorIndex := 25, attributes := #[] }, { accessFlags := 25, nameIndex := 288, descriptorIndex := 25, attributes := #[] }, { accessFlags := 25, nameIndex := 290, descriptorIndex := 25, attributes := #[] }, { accessFlags := 25, nameIndex := 292, descriptorIndex := 25, attributes := #[] }, { accessFlags := 26, nameIndex := 108, descriptorIndex := 109, attributes := #[] }, { accessFlags := 25, nameIndex := 294, descriptorIndex := 25, attributes := #[] }])
  fields := #[{ name := "U", type := (.object "jdk/internal/misc/Unsafe"), accessFlags := 24, slot := 0, constantValue := 0 }, { name := "BIG_ENDIAN", type := .boolean, accessFlags := 26, slot := 1, constantValue := 0 }, { name := "LOG2_ARRAY_BOOLEAN_INDEX_SCALE", type := .int, accessFlags := 25, slot := 2, constantValue := 0 }, { name := "LOG2_ARRAY_BYTE_INDEX_SCALE", type := .int, accessFlags := 25, slot := 3, constantValue := 0 }, { name := "LOG2_ARRAY_CHAR_INDEX_SCALE", type := .int, accessFlags := 25, slot := 4, constantValue := 0 }, { name := "LOG2_ARRAY_SHORT_INDEX_SCALE", type := .int, accessFlags := 25, slot := 5, constantValue := 0 }, { name := "LOG2_ARRAY_INT_INDEX_SCALE", type := .int, accessFlags := 25, slot := 6, constantValue := 0 }, { name := "LOG2_ARRAY_LONG_INDEX_SCALE", type := .int, accessFlags := 25, slot := 7, constantValue := 0 }, { name := "LOG2_ARRAY_FLOAT_INDEX_SCALE", type := .int, accessFlags := 25, slot := 8, constantValue := 0 }, { name := "LOG2_ARRAY_DOUBLE_INDEX_SCALE", type := .int, accessFlags := 25, slot := 9, constantValue := 0 }, { name := "LOG2_BYTE_BIT_SIZE", type := .int, accessFlags := 26, slot := 10, constantValue := 0 }, { name := "T_BOOLEAN", type := .int, accessFlags := 25, slot := 11, constantValue := 0 }, { name := "T_CHAR", type := .int, accessFlags := 25, slot := 12, constantValue := 0 }, { name := "T_FLOAT", type := .int, accessFlags := 25, slot := 13, constantValue := 0 }, { name := "T_DOUBLE", type := .int, accessFlags := 25, slot := 14, constantValue := 0 }, { name := "T_BYTE", type := .int, accessFlags := 25, slot := 15, constantValue := 0 }, { name := "T_SHORT", type := .int, accessFlags := 25, slot := 16, constantValue := 0 }, { name := "T_INT", type := .int, accessFlags := 25, slot := 17, constantValue := 0 }, { name := "T_LONG", type := .int, accessFlags := 25, slot := 18, constantValue := 0 }, { name := "JLA", type := (.object "jdk/internal/access/JavaLangAccess"), accessFlags := 26, slot := 19, constantValue := 0 }, { name := "SOFT_MAX_ARRAY_LENGTH", type := .int, accessFlags := 25, slot := 20, constantValue := 0 }]
  methods := #[k16m0]
  instanceTypes := #[]
  staticTypes := #[(.object "jdk/internal/misc/Unsafe"), .boolean, .int, .int, .int, .int, .int, .int, .int, .int, .int, .int, .int, .int, .int, .int, .int, .int, .int, (.object "jdk/internal/access/JavaLangAccess"), .int]
  resolved := Array.replicate 378 none
  statics := none }

def pool17 : Array CpInfo := pool [(1, u "java/lang/Cloneable"), (0, .class_ 1), (0, u "java/lang/Object"), (0, .class_ 3)] 3

/-- java/lang/Cloneable -/
def k17 : Class := { plain "java/lang/Cloneable" (some 0) with
  accessFlags := 1537
  interfaces := #[]
  cf := some (fileOf pool17 2 #[] #[] 1537 4 #[] #[])
  fields := #[]
  methods := #[]
  instanceTypes := #[]
  staticTypes := #[]
  resolved := Array.replicate 8 none
  statics := none }

/-- the primitive byte -/
def k18 : Class := { plain "byte" none with kind := .primitive 'B', accessFlags := 0x411 }
/-- [B -/
def k19 : Class := { plain "[B" (some 0) with kind := .array 18 .byte, interfaces := #[17, 4], accessFlags := 1041 }

/-- the primitive char -/
def k20 : Class := { plain "char" none with kind := .primitive 'C', accessFlags := 0x411 }
/-- [C -/
def k21 : Class := { plain "[C" (some 0) with kind := .array 20 .char, interfaces := #[17, 4], accessFlags := 1041 }

/-- the primitive int -/
def k22 : Class := { plain "int" none with kind := .primitive 'I', accessFlags := 0x411 }
/-- [I -/
def k23 : Class := { plain "[I" (some 0) with kind := .array 22 .int, interfaces := #[17, 4], accessFlags := 1041 }

def heap : Heap := #[{ cls := 6, slots := #[.ref 4, .ref 5, .ref 6, .ref 7, .ref 8, .ref 9, .ref 10, .ref 11, .ref 12, .ref 13, .ref 14, .ref 15, .null], vm := .statics 6 },
  { cls := 9, slots := #[.long 0, .int 1, .null, .int 0, .null, .int 0, .int 0], vm := .statics 9 },
  { cls := 13, slots := #[.ref 16], vm := .statics 13 },
  { cls := 15, slots := #[.null, .null, .null], vm := .statics 15 },
  { cls := 6, slots := #[.null, .int 0, .int 0], vm := .none },
  { cls := 6, slots := #[.null, .int 0, .int 0], vm := .none },
  { cls := 6, slots := #[.null, .int 0, .int 0], vm := .none },
  { cls := 6, slots := #[.null, .int 0, .int 0], vm := .none },
  { cls := 6, slots := #[.null, .int 0, .int 0], vm := .none },
  { cls := 6, slots := #[.null, .int 0, .int 0], vm := .none },
  { cls := 6, slots := #[.null, .int 0, .int 0], vm := .none },
  { cls := 6, slots := #[.null, .int 0, .int 0], vm := .none },
  { cls := 6, slots := #[.null, .int 0, .int 0], vm := .none },
  { cls := 6, slots := #[.null, .int 0, .int 0], vm := .none },
  { cls := 6, slots := #[.null, .int 0, .int 0], vm := .none },
  { cls := 6, slots := #[.null, .int 0, .int 0], vm := .none },
  { cls := 13, slots := #[.null], vm := .none }]
def classes : Array Class := #[k0, k1, k2, k3, k4, k5, k6, k7, k8, k9, k10, k11, k12, k13, k14, k15, k16, k17, k18, k19, k20, k21, k22, k23]
def interned : List (Array UInt16 × Addr) := []
def slotsUsed : Nat := 61
def theMethod : MethodId := ⟨1, 3⟩
def args0 : Array Value := #[.int 6, .int 4321, .int 2]
def aboutOver (below : List Frame) : State where
  vm := { classes := classes, interned := interned.toArray }
  heap := heap
  slotsUsed := slotsUsed
  threads := #[{ frames := .invoking theMethod args0 :: below }]
def below0 : List Frame := [.native { method := ⟨0, 0⟩, args := #[] }]
def about1 : State := aboutOver below0
def p0 : Program := .bare "" "" ""
def e0 : Env := launch0.env 0 0 0
theorem w_frames : about1.frames = Frame.invoking theMethod args0 :: below0 := rfl
set_option maxRecDepth 65536 in
theorem w_args : argsFit about1.vm theMethod args0 = true := by decide +kernel
set_option maxRecDepth 65536 in
theorem w_heap : heapFits about1 = true := by decide +kernel
set_option maxRecDepth 65536 in
theorem w_runnable : about1.curStatus? = some .runnable := by decide +kernel
set_option maxRecDepth 65536 in
theorem w_alone : about1.alone = true := by decide +kernel
set_option maxRecDepth 65536 in
theorem w_named : about1.methodNamed? x = some theMethod := by decide +kernel
set_option maxRecDepth 65536 in
theorem w_hears : about1.hears theMethod below0 = true := by decide +kernel
set_option maxRecDepth 65536 in
theorem w_ripe : about1.ripe theMethod args0 below0 = true := by decide +kernel
theorem w_running : about1.status = .running := rfl
set_option maxRecDepth 65536 in
theorem w_room : about1.hasRoom e0.platform room_1 = true :=
  launch0.hasRoom_least _ room_1 (by decide +kernel) (by decide +kernel) (by decide +kernel) (by decide +kernel) (by decide +kernel) (by decide +kernel)
theorem allAtoms_all (ts : List Jvm.Cond) (a : Array Jvm.Value) (st : Jvm.State) : (allAtoms ts).before a st = ts.all (fun c => c.before a st) := by
  induction ts with
  | nil => rfl
  | cons c t ih =>
    show (Jvm.Cond.and c (allAtoms t)).before a st = _
    rw [Jvm.Cond.before_and, ih, List.all_cons]
def words1 : List Jvm.Cond := Jvm.Cond.code x code maxLocals ret :: tables_1
/-- a 'code' word, met by the world's own term for the bytes: nothing is compared byte by byte -/
theorem code_word {y : MethodName} {bytes : ByteArray} {mx : Nat} {rt : Option FieldType} {a : Array Value} {s : State} {m : MethodId} {meth : Method} {c : Code} (h1 : s.methodNamed? y = some m) (h2 : s.vm.method? m = some meth) (h3 : meth.code = some c) (h4 : c.code = bytes)
    (h5 : (c.maxLocals == mx && c.exceptionTable.isEmpty && decide (c.maxStack ≤ mostOperands) && decide (meth.sig.returnType = rt) && !meth.locks && decide (parseMethodDescriptor y.desc = some meth.sig)) = true) : (Jvm.Cond.code y bytes mx rt).before a s = true := by
  simp only [Bool.and_eq_true, beq_iff_eq, Bool.not_eq_true', decide_eq_true_eq] at h5
  obtain ⟨⟨⟨⟨⟨g1, g2⟩, g3⟩, g4⟩, g5⟩, g6⟩ := h5
  simp [Cond.before, Cond.holds, Cond.value, h1, h2, h3, h4, g1, g2, g3, g4, g5, g6]
def isCode : Jvm.Cond → Bool
  | .code _ _ _ _ => true
  | _ => false
theorem all_split {L : List Jvm.Cond} {P : Jvm.Cond → Bool} (h1 : L.all (fun c => isCode c || P c) = true) (h2 : ∀ c ∈ L.filter isCode, P c = true) : L.all P = true := by
  refine List.all_eq_true.mpr fun c hc => ?_
  have h := List.all_eq_true.mp h1 c hc
  rcases Bool.eq_false_or_eq_true (isCode c) with hi | hi
  · exact h2 c (List.mem_filter.mpr ⟨hc, hi⟩)
  · simpa [hi] using h
set_option maxRecDepth 65536 in
theorem w_c0 : (Jvm.Cond.code x code maxLocals ret).before args0 about1 = true := code_word (m := ⟨1, 3⟩) (meth := k1m3) (c := k1c3) (by decide +kernel) rfl rfl rfl (by decide +kernel)
set_option maxRecDepth 65536 in
theorem w_c1 : (Jvm.Cond.code ({ cls := "com/example/frugal_scheduler/frugalscheduler/plan/ViolationOfPlanPinLaw", name := "pick", desc := "(I)Lcom/example/frugal_scheduler/frugalscheduler/plan/Rule;" } : Jvm.MethodName) method_2_code (1 : Nat) (Option.some (Jvm.ClassFile.FieldType.object "com/example/frugal_scheduler/frugalscheduler/plan/Rule"))).before args0 about1 = true := code_word (m := ⟨1, 1⟩) (meth := k1m1) (c := k1c1) (by decide +kernel) rfl rfl rfl (by decide +kernel)
set_option maxRecDepth 65536 in
theorem w_c2 : (Jvm.Cond.code ({ cls := "com/example/frugal_scheduler/frugalscheduler/plan/ViolationOfPlanPinLaw", name := "text", desc := "(ICCC)Ljava/lang/String;" } : Jvm.MethodName) method_3_code (4 : Nat) (Option.some (Jvm.ClassFile.FieldType.object "java/lang/String"))).before args0 about1 = true := code_word (m := ⟨1, 2⟩) (meth := k1m2) (c := k1c2) (by decide +kernel) rfl rfl rfl (by decide +kernel)
set_option maxRecDepth 65536 in
theorem w_c3 : (Jvm.Cond.code ({ cls := "java/lang/String", name := "<init>", desc := "([C)V" } : Jvm.MethodName) jdk_42_method_3_code (2 : Nat) (Option.none : Option Jvm.ClassFile.FieldType)).before args0 about1 = true := code_word (m := ⟨9, 1⟩) (meth := k9m1) (c := k9c1) (by decide +kernel) rfl rfl rfl (by decide +kernel)
set_option maxRecDepth 65536 in
theorem w_c4 : (Jvm.Cond.code ({ cls := "java/lang/String", name := "<init>", desc := "([CIILjava/lang/Void;)V" } : Jvm.MethodName) jdk_42_method_149_code (6 : Nat) (Option.none : Option Jvm.ClassFile.FieldType)).before args0 about1 = true := code_word (m := ⟨9, 3⟩) (meth := k9m3) (c := k9c3) (by decide +kernel) rfl rfl rfl (by decide +kernel)
set_option maxRecDepth 65536 in
theorem w_c5 : (Jvm.Cond.code ({ cls := "java/lang/Object", name := "<init>", desc := "()V" } : Jvm.MethodName) object_method_1_code (1 : Nat) (Option.none : Option Jvm.ClassFile.FieldType)).before args0 about1 = true := code_word (m := ⟨0, 0⟩) (meth := k0m0) (c := k0c0) (by decide +kernel) rfl rfl rfl (by decide +kernel)
set_option maxRecDepth 65536 in
theorem w_c6 : (Jvm.Cond.code ({ cls := "java/lang/StringUTF16", name := "compress", desc := "([CII)[B" } : Jvm.MethodName) jdk_52_method_16_code (6 : Nat) (Option.some (Jvm.ClassFile.FieldType.array Jvm.ClassFile.FieldType.byte))).before args0 about1 = true := code_word (m := ⟨10, 2⟩) (meth := k10m2) (c := k10c2) (by decide +kernel) rfl rfl rfl (by decide +kernel)
set_option maxRecDepth 65536 in
theorem w_c7 : (Jvm.Cond.code ({ cls := "java/lang/StringUTF16", name := "compress", desc := "([CI[BII)I" } : Jvm.MethodName) jdk_52_method_21_code (7 : Nat) (Option.some Jvm.ClassFile.FieldType.int)).before args0 about1 = true := code_word (m := ⟨10, 3⟩) (meth := k10m3) (c := k10c3) (by decide +kernel) rfl rfl rfl (by decide +kernel)
set_option maxRecDepth 65536 in
theorem w_c8 : (Jvm.Cond.code ({ cls := "java/lang/StringUTF16", name := "coderFromArrayLen", desc := "([BI)B" } : Jvm.MethodName) jdk_52_method_15_code (2 : Nat) (Option.some Jvm.ClassFile.FieldType.byte)).before args0 about1 = true := code_word (m := ⟨10, 1⟩) (meth := k10m1) (c := k10c1) (by decide +kernel) rfl rfl rfl (by decide +kernel)
set_option maxRecDepth 65536 in
theorem w_c9 : (Jvm.Cond.code ({ cls := "com/example/frugal_scheduler/frugalscheduler/plan/Violation", name := "ofPlan", desc := "(Lcom/example/frugal_scheduler/frugalscheduler/plan/Rule;Ljava/lang/String;)Lcom/example/frugal_scheduler/frugalscheduler/plan/Violation;" } : Jvm.MethodName) prog_12_method_4_code (2 : Nat) (Option.some (Jvm.ClassFile.FieldType.object "com/example/frugal_scheduler/frugalscheduler/plan/Violation"))).before args0 about1 = true := code_word (m := ⟨11, 1⟩) (meth := k11m1) (c := k11c1) (by decide +kernel) rfl rfl rfl (by decide +kernel)
set_option maxRecDepth 65536 in
theorem w_c10 : (Jvm.Cond.code ({ cls := "com/example/frugal_scheduler/frugalscheduler/plan/Violation", name := "<init>", desc := "(Lcom/example/frugal_scheduler/frugalscheduler/plan/Rule;Ljava/lang/String;Ljava/lang/String;Ljava/lang/String;)V" } : Jvm.MethodName) prog_12_method_1_code (5 : Nat) (Option.none : Option Jvm.ClassFile.FieldType)).before args0 about1 = true := code_word (m := ⟨11, 0⟩) (meth := k11m0) (c := k11c0) (by decide +kernel) rfl rfl rfl (by decide +kernel)
set_option maxRecDepth 65536 in
theorem w_c11 : (Jvm.Cond.code ({ cls := "java/util/Objects", name := "requireNonNull", desc := "(Ljava/lang/Object;Ljava/lang/String;)Ljava/lang/Object;" } : Jvm.MethodName) jdk_31_method_11_code (2 : Nat) (Option.some (Jvm.ClassFile.FieldType.object "java/lang/Object"))).before args0 about1 = true := code_word (m := ⟨12, 1⟩) (meth := k12m1) (c := k12c1) (by decide +kernel) rfl rfl rfl (by decide +kernel)
set_option maxRecDepth 65536 in
theorem w_c12 : (Jvm.Cond.code ({ cls := "com/example/frugal_scheduler/frugalscheduler/plan/Violation", name := "getRule", desc := "()Lcom/example/frugal_scheduler/frugalscheduler/plan/Rule;" } : Jvm.MethodName) prog_12_method_5_code (1 : Nat) (Option.some (Jvm.ClassFile.FieldType.object "com/example/frugal_scheduler/frugalscheduler/plan/Rule"))).before args0 about1 = true := code_word (m := ⟨11, 2⟩) (meth := k11m2) (c := k11c2) (by decide +kernel) rfl rfl rfl (by decide +kernel)
set_option maxRecDepth 65536 in
theorem w_c13 : (Jvm.Cond.code ({ cls := "com/example/frugal_scheduler/frugalscheduler/plan/Violation", name := "getMessage", desc := "()Ljava/lang/String;" } : Jvm.MethodName) prog_12_method_8_code (1 : Nat) (Option.some (Jvm.ClassFile.FieldType.object "java/lang/String"))).before args0 about1 = true := code_word (m := ⟨11, 5⟩) (meth := k11m5) (c := k11c5) (by decide +kernel) rfl rfl rfl (by decide +kernel)
set_option maxRecDepth 65536 in
theorem w_c14 : (Jvm.Cond.code ({ cls := "java/lang/String", name := "equals", desc := "(Ljava/lang/Object;)Z" } : Jvm.MethodName) jdk_42_method_66_code (3 : Nat) (Option.some Jvm.ClassFile.FieldType.boolean)).before args0 about1 = true := code_word (m := ⟨9, 2⟩) (meth := k9m2) (c := k9c2) (by decide +kernel) rfl rfl rfl (by decide +kernel)
set_option maxRecDepth 65536 in
theorem w_c15 : (Jvm.Cond.code ({ cls := "com/example/frugal_scheduler/frugalscheduler/plan/Violation", name := "getTask", desc := "()Ljava/util/Optional;" } : Jvm.MethodName) prog_12_method_6_code (1 : Nat) (Option.some (Jvm.ClassFile.FieldType.object "java/util/Optional"))).before args0 about1 = true := code_word (m := ⟨11, 3⟩) (meth := k11m3) (c := k11c3) (by decide +kernel) rfl rfl rfl (by decide +kernel)
set_option maxRecDepth 65536 in
theorem w_c16 : (Jvm.Cond.code ({ cls := "java/util/Optional", name := "ofNullable", desc := "(Ljava/lang/Object;)Ljava/util/Optional;" } : Jvm.MethodName) jdk_32_method_4_code (1 : Nat) (Option.some (Jvm.ClassFile.FieldType.object "java/util/Optional"))).before args0 about1 = true := code_word (m := ⟨13, 0⟩) (meth := k13m0) (c := k13c0) (by decide +kernel) rfl rfl rfl (by decide +kernel)
set_option maxRecDepth 65536 in
theorem w_c17 : (Jvm.Cond.code ({ cls := "java/util/Optional", name := "isPresent", desc := "()Z" } : Jvm.MethodName) jdk_32_method_6_code (1 : Nat) (Option.some Jvm.ClassFile.FieldType.boolean)).before args0 about1 = true := code_word (m := ⟨13, 1⟩) (meth := k13m1) (c := k13c1) (by decide +kernel) rfl rfl rfl (by decide +kernel)
set_option maxRecDepth 65536 in
theorem w_c18 : (Jvm.Cond.code ({ cls := "com/example/frugal_scheduler/frugalscheduler/plan/Violation", name := "getVm", desc := "()Ljava/util/Optional;" } : Jvm.MethodName) prog_12_method_7_code (1 : Nat) (Option.some (Jvm.ClassFile.FieldType.object "java/util/Optional"))).before args0 about1 = true := code_word (m := ⟨11, 4⟩) (meth := k11m4) (c := k11c4) (by decide +kernel) rfl rfl rfl (by decide +kernel)
def codes1 : List Jvm.Cond := [Jvm.Cond.code x code maxLocals ret, Jvm.Cond.code ({ cls := "com/example/frugal_scheduler/frugalscheduler/plan/ViolationOfPlanPinLaw", name := "pick", desc := "(I)Lcom/example/frugal_scheduler/frugalscheduler/plan/Rule;" } : Jvm.MethodName) method_2_code (1 : Nat) (Option.some (Jvm.ClassFile.FieldType.object "com/example/frugal_scheduler/frugalscheduler/plan/Rule")), Jvm.Cond.code ({ cls := "com/example/frugal_scheduler/frugalscheduler/plan/ViolationOfPlanPinLaw", name := "text", desc := "(ICCC)Ljava/lang/String;" } : Jvm.MethodName) method_3_code (4 : Nat) (Option.some (Jvm.ClassFile.FieldType.object "java/lang/String")), Jvm.Cond.code ({ cls := "java/lang/String", name := "<init>", desc := "([C)V" } : Jvm.MethodName) jdk_42_method_3_code (2 : Nat) (Option.none : Option Jvm.ClassFile.FieldType), Jvm.Cond.code ({ cls := "java/lang/String", name := "<init>", desc := "([CIILjava/lang/Void;)V" } : Jvm.MethodName) jdk_42_method_149_code (6 : Nat) (Option.none : Option Jvm.ClassFile.FieldType), Jvm.Cond.code ({ cls := "java/lang/Object", name := "<init>", desc := "()V" } : Jvm.MethodName) object_method_1_code (1 : Nat) (Option.none : Option Jvm.ClassFile.FieldType), Jvm.Cond.code ({ cls := "java/lang/StringUTF16", name := "compress", desc := "([CII)[B" } : Jvm.MethodName) jdk_52_method_16_code (6 : Nat) (Option.some (Jvm.ClassFile.FieldType.array Jvm.ClassFile.FieldType.byte)), Jvm.Cond.code ({ cls := "java/lang/StringUTF16", name := "compress", desc := "([CI[BII)I" } : Jvm.MethodName) jdk_52_method_21_code (7 : Nat) (Option.some Jvm.ClassFile.FieldType.int), Jvm.Cond.code ({ cls := "java/lang/StringUTF16", name := "coderFromArrayLen", desc := "([BI)B" } : Jvm.MethodName) jdk_52_method_15_code (2 : Nat) (Option.some Jvm.ClassFile.FieldType.byte), Jvm.Cond.code ({ cls := "com/example/frugal_scheduler/frugalscheduler/plan/Violation", name := "ofPlan", desc := "(Lcom/example/frugal_scheduler/frugalscheduler/plan/Rule;Ljava/lang/String;)Lcom/example/frugal_scheduler/frugalscheduler/plan/Violation;" } : Jvm.MethodName) prog_12_method_4_code (2 : Nat) (Option.some (Jvm.ClassFile.FieldType.object "com/example/frugal_scheduler/frugalscheduler/plan/Violation")), Jvm.Cond.code ({ cls := "com/example/frugal_scheduler/frugalscheduler/plan/Violation", name := "<init>", desc := "(Lcom/example/frugal_scheduler/frugalscheduler/plan/Rule;Ljava/lang/String;Ljava/lang/String;Ljava/lang/String;)V" } : Jvm.MethodName) prog_12_method_1_code (5 : Nat) (Option.none : Option Jvm.ClassFile.FieldType), Jvm.Cond.code ({ cls := "java/util/Objects", name := "requireNonNull", desc := "(Ljava/lang/Object;Ljava/lang/String;)Ljava/lang/Object;" } : Jvm.MethodName) jdk_31_method_11_code (2 : Nat) (Option.some (Jvm.ClassFile.FieldType.object "java/lang/Object")), Jvm.Cond.code ({ cls := "com/example/frugal_scheduler/frugalscheduler/plan/Violation", name := "getRule", desc := "()Lcom/example/frugal_scheduler/frugalscheduler/plan/Rule;" } : Jvm.MethodName) prog_12_method_5_code (1 : Nat) (Option.some (Jvm.ClassFile.FieldType.object "com/example/frugal_scheduler/frugalscheduler/plan/Rule")), Jvm.Cond.code ({ cls := "com/example/frugal_scheduler/frugalscheduler/plan/Violation", name := "getMessage", desc := "()Ljava/lang/String;" } : Jvm.MethodName) prog_12_method_8_code (1 : Nat) (Option.some (Jvm.ClassFile.FieldType.object "java/lang/String")), Jvm.Cond.code ({ cls := "java/lang/String", name := "equals", desc := "(Ljava/lang/Object;)Z" } : Jvm.MethodName) jdk_42_method_66_code (3 : Nat) (Option.some Jvm.ClassFile.FieldType.boolean), Jvm.Cond.code ({ cls := "com/example/frugal_scheduler/frugalscheduler/plan/Violation", name := "getTask", desc := "()Ljava/util/Optional;" } : Jvm.MethodName) prog_12_method_6_code (1 : Nat) (Option.some (Jvm.ClassFile.FieldType.object "java/util/Optional")), Jvm.Cond.code ({ cls := "java/util/Optional", name := "ofNullable", desc := "(Ljava/lang/Object;)Ljava/util/Optional;" } : Jvm.MethodName) jdk_32_method_4_code (1 : Nat) (Option.some (Jvm.ClassFile.FieldType.object "java/util/Optional")), Jvm.Cond.code ({ cls := "java/util/Optional", name := "isPresent", desc := "()Z" } : Jvm.MethodName) jdk_32_method_6_code (1 : Nat) (Option.some Jvm.ClassFile.FieldType.boolean), Jvm.Cond.code ({ cls := "com/example/frugal_scheduler/frugalscheduler/plan/Violation", name := "getVm", desc := "()Ljava/util/Optional;" } : Jvm.MethodName) prog_12_method_7_code (1 : Nat) (Option.some (Jvm.ClassFile.FieldType.object "java/util/Optional"))]
set_option maxRecDepth 65536 in
theorem codes_eq : words1.filter isCode = codes1 := rfl
theorem w_codes : ∀ c ∈ words1.filter isCode, c.before args0 about1 = true := by
  rw [codes_eq]
  intro c hc
  simp only [codes1, List.mem_cons, List.not_mem_nil, or_false] at hc
  rcases hc with rfl | rfl | rfl | rfl | rfl | rfl | rfl | rfl | rfl | rfl | rfl | rfl | rfl | rfl | rfl | rfl | rfl | rfl | rfl
  · exact w_c0
  · exact w_c1
  · exact w_c2
  · exact w_c3
  · exact w_c4
  · exact w_c5
  · exact w_c6
  · exact w_c7
  · exact w_c8
  · exact w_c9
  · exact w_c10
  · exact w_c11
  · exact w_c12
  · exact w_c13
  · exact w_c14
  · exact w_c15
  · exact w_c16
  · exact w_c17
  · exact w_c18
set_option maxRecDepth 65536 in
theorem w_t1 : (words1.take 24).all (fun c => isCode c || c.before args0 about1) = true := by decide +kernel
set_option maxRecDepth 65536 in
theorem w_t2 : ((words1.drop 24).take 24).all (fun c => isCode c || c.before args0 about1) = true := by decide +kernel
set_option maxRecDepth 65536 in
theorem w_t3 : (((words1.drop 24).drop 24).take 24).all (fun c => isCode c || c.before args0 about1) = true := by decide +kernel
set_option maxRecDepth 65536 in
theorem w_t4 : ((((words1.drop 24).drop 24).drop 24).take 24).all (fun c => isCode c || c.before args0 about1) = true := by decide +kernel
set_option maxRecDepth 65536 in
theorem w_t5 : (((((words1.drop 24).drop 24).drop 24).drop 24).take 24).all (fun c => isCode c || c.before args0 about1) = true := by decide +kernel
set_option maxRecDepth 65536 in
theorem w_t6 : (((((words1.drop 24).drop 24).drop 24).drop 24).drop 24).all (fun c => isCode c || c.before args0 about1) = true := by decide +kernel
theorem w_tables : (allAtoms (Jvm.Cond.code x code maxLocals ret :: tables_1)).before args0 about1 = true := by
  rw [allAtoms_all]
  show words1.all (fun c => c.before args0 about1) = true
  refine all_split ?_ w_codes
  rw [← List.take_append_drop 24 words1, List.all_append, w_t1, ← List.take_append_drop 24 (words1.drop 24), List.all_append, w_t2, ← List.take_append_drop 24 ((words1.drop 24).drop 24), List.all_append, w_t3, ← List.take_append_drop 24 (((words1.drop 24).drop 24).drop 24), List.all_append, w_t4, ← List.take_append_drop 24 ((((words1.drop 24).drop 24).drop 24).drop 24), List.all_append, w_t5, w_t6]
  rfl
set_option maxRecDepth 65536 in
theorem w_rest : rest_1_c.before args0 about1 = true := by decide +kernel
set_option maxRecDepth 65536 in
theorem w_case : (Jvm.Cond.and given_1 narrow_1).before args0 about1 = true := by decide +kernel
set_option maxRecDepth 65536 in
theorem w_consts : constsHeld consts_1 about1 := Jvm.Lit.constsHeldB_iff.mp (by decide +kernel)
theorem w_applies : (headSpec (Jvm.Cond.code x code maxLocals ret :: tables_1) room_1).applies x e0.platform about1 = true :=
  (Spec.applies_iff w_frames).mpr ⟨w_running, w_runnable, w_alone, w_named, w_hears, w_ripe, w_room, w_tables⟩
theorem atStart : AtStart classFile x code maxLocals ret World_1 tables_1 room_1 Calls_1 rest_1 Pre_1 launch0 p0 e0 about1 theMethod args0 below0 :=
  ⟨lists_1, trivial, launch0.admits_env _ _ _, launch0.least_env, fairChoices_fair.cas, fairChoices_fair.clock, w_frames, w_args, w_heap, w_applies, ⟨w_consts, trivial⟩, w_rest, w_case⟩
end start1
theorem witness_1 : WitnessClaimed_1 := ⟨start1.p0, start1.e0, start1.about1, start1.theMethod, start1.args0, start1.below0, start1.atStart⟩
end Jvm.Pilot.@@N@@
