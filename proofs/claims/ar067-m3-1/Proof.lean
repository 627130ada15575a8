import JvmDerived
import JvmDerived.Pilot.@@N@@Statement
import JvmDerived.Pilot.@@N@@Code
set_option linter.unusedVariables false
set_option linter.unusedSimpArgs false
namespace Jvm.RoadKit
open Sem ClassFile Op Lib Jvm.Stand Jvm.Free Jvm.LawKit
section OwnKit
variable {p : Program} {l : Launch} {e : Env} {R : Room} {s : State} {m : MethodId} {args : Array Value} {below : List Frame} {meth : Method} {c : Code} {T : State} {locs : List Loc} {cells slots : Nat} {Z : State} {a0 : Array Value} {h h' : Heap}
/-- from this frame on the method ends, and Post says how -/
def own_Fin (p : Program) (e : Env) (below : List Frame) (Post : Outcome → State → Prop) (T : State) (g : JFrame) : Prop :=
  ∃ (t : State) (o : Outcome), Steps p.tables e below (T.setTop g) t ∧ t.status = .running ∧ Ended t below o ∧ Post o t
theorem own_step {Post : Outcome → State → Prop} {T T' : State} {g g' : JFrame} (st : ∀ t, Steps p.tables e below (T'.setTop g') t → Steps p.tables e below (T.setTop g) t) (k : own_Fin p e below Post T' g') : own_Fin p e below Post T g := by
  obtain ⟨t, o, a, b⟩ := k
  exact ⟨t, o, st _ a, b⟩
abbrev own_PostN (s : State) (rm : Room) (Q : Option Value → Heap → List Loc → Prop) : Outcome → State → Prop := fun o U' => ∃ v L, o = .returned v ∧ Q v U'.heap L ∧ FrameEnd s o U' L rm.cells rm.slots
/-- a body's contract: for these arguments, at this heap, over tables warmer than Z's -/
def own_Con (l : Launch) (Z : State) (y : MethodName) (bytes : ByteArray) (maxL : Nat) (ret : Option FieldType) (rm : Room) (as' : Array Value) (h : Heap) (Q : Option Value → Heap → List Loc → Prop) : Prop :=
  ∀ ws : List Cond, MetFree l y (head1 (Cond.code y bytes maxL ret :: ws) rm) (fun a U => a = as' ∧ Z.Warmed39 U.vm ∧ U.heap = h) (fun _ _ _ _ _ => True) (fun _ U o U' => ∃ v L, o = .returned v ∧ Q v U'.heap L ∧ FrameEnd U o U' L rm.cells rm.slots)
theorem own_con {y : MethodName} {bytes : ByteArray} {maxL : Nat} {ret : Option FieldType} {rm : Room} {as' : Array Value} {Q : Option Value → Heap → List Loc → Prop} {ls : Array Slot} (hpl : plainName y.cls = true) (ef : ∀ m, entryFrame m as' maxL = mkF m 0 ls [])
    (body : ∀ (p : Program) (e : Env) (s : State) (m : MethodId) (below : List Frame) (meth : Method) (c : Code) (s₁ : State), p.tables.exec = Jvm.exec → c.code = bytes → c.maxLocals = maxL → s.vm.findClass y.cls = some m.cls → meth.name = y.name → meth.sig.returnType = ret → meth.locks = false → Z.Warmed39 s.vm →
      Stand p l e rm s m as' below meth c s₁ [] 0 0 → s₁.heap = h → own_Fin p e below (own_PostN s rm Q) s₁ (mkF m 0 ls [])) : own_Con l Z y bytes maxL ret rm as' h Q := by
  intro ws
  refine MetFree.of_bodySF (plainFor_of_name hpl) hisR ?_
  intro p e s m args below meth c s₁ Bd hml0 hP hK
  obtain ⟨rfl, hZ, hh⟩ := hP
  have k := body p e s m below meth c s₁ Bd.exec Bd.bytes hml0 (findClass_of_methodNamed Bd.named) (name_of_methodNamed Bd.named Bd.method).1 Bd.returns Bd.notSynchronized hZ (Stand.of_body Bd) (by rw [← hh, Bd.state]; rfl)
  rw [← ef m] at k
  exact k
theorem own_ret {rm : Room} {Q : Option Value → Heap → List Loc → Prop} (X : Stand p l e R s m args below meth c T locs cells slots) (hlk : meth.locks = false) {v : Option Value} (hv : meth.sig.returnType = none → v = none) {g : JFrame}
    (st : ∀ fs, (∀ (f : JFrame) (acts : List Action), f.method = m → f.locked = none → f.entered = [] → (doReturn e (T.setTop f) acts v).1 = T.setFrames fs) → Steps p.tables e below (T.setTop g) (T.setFrames fs))
    (eT : T.heap = h) (hQ : Q v h locs) (hc : cells ≤ rm.cells) (hs : slots ≤ rm.slots) : own_Fin p e below (own_PostN s rm Q) T g := by
  obtain ⟨fs, hr, hrun, hended, hW, hsame⟩ := X.leave (v := v) hv hlk
  refine ⟨_, _, st fs hr, hrun, hended, v, locs, rfl, ?_, ⟨_, rfl⟩, hW, hsame.mono hc hs⟩
  show Q v T.heap locs
  rw [eT]; exact hQ
theorem own_retV {rm : Room} {Q : Option Value → Heap → List Loc → Prop} (X : Stand p l e R s m args below meth c T locs cells slots) (hx : p.tables.exec = Jvm.exec) (hlk : meth.locks = false) (hret : meth.sig.returnType = none) {pc : Nat} {Ls : Array Slot} (hd : decode c.code pc = .ok (.return_, 1))
    (eT : T.heap = h) (hQ : Q none h locs) (hc : cells ≤ rm.cells) (hs : slots ≤ rm.slots) : own_Fin p e below (own_PostN s rm Q) T (mkF m pc Ls []) :=
  own_ret X hlk (fun _ => rfl) (fun fs hr => X.returnOut hx hret hd hr) eT hQ hc hs
theorem own_retN {rm : Room} {Q : Option Value → Heap → List Loc → Prop} (X : Stand p l e R s m args below meth c T locs cells slots) (hx : p.tables.exec = Jvm.exec) (hlk : meth.locks = false) {t : FieldType} (hret : meth.sig.returnType = some t) (ht : t = .boolean ∨ t = .byte ∨ t = .char ∨ t = .short) {pc : Nat} {Ls : Array Slot} {z : Int32} {rest : List Value} (hd : decode c.code pc = .ok (.ireturn, 1))
    (eT : T.heap = h) (hQ : Q (some (.int (nar t z))) h locs) (hc : cells ≤ rm.cells) (hs : slots ≤ rm.slots) : own_Fin p e below (own_PostN s rm Q) T (mkF m pc Ls (.int z :: rest)) :=
  own_ret X hlk (fun q => by rw [hret] at q; cases q) (fun fs hr => retN X hx hret ht hd hr) eT hQ hc hs
theorem own_retI {rm : Room} {Q : Option Value → Heap → List Loc → Prop} (X : Stand p l e R s m args below meth c T locs cells slots) (hx : p.tables.exec = Jvm.exec) (hlk : meth.locks = false) (hret : meth.sig.returnType = some .int) {pc : Nat} {Ls : Array Slot} {z : Int32} {rest : List Value} (hd : decode c.code pc = .ok (.ireturn, 1))
    (eT : T.heap = h) (hQ : Q (some (.int z)) h locs) (hc : cells ≤ rm.cells) (hs : slots ≤ rm.slots) : own_Fin p e below (own_PostN s rm Q) T (mkF m pc Ls (.int z :: rest)) :=
  own_ret X hlk (fun q => by rw [hret] at q; cases q) (fun fs hr => retOut X hx hret rfl (Or.inl ⟨rfl, Or.inl rfl, z, rfl⟩) hd hr) eT hQ hc hs
theorem own_retL {rm : Room} {Q : Option Value → Heap → List Loc → Prop} (X : Stand p l e R s m args below meth c T locs cells slots) (hx : p.tables.exec = Jvm.exec) (hlk : meth.locks = false) (hret : meth.sig.returnType = some .long) {pc : Nat} {Ls : Array Slot} {z : Int64} {rest : List Value} (hd : decode c.code pc = .ok (.lreturn, 1))
    (eT : T.heap = h) (hQ : Q (some (.long z)) h locs) (hc : cells ≤ rm.cells) (hs : slots ≤ rm.slots) : own_Fin p e below (own_PostN s rm Q) T (mkF m pc Ls (.long z :: rest)) :=
  own_ret X hlk (fun q => by rw [hret] at q; cases q) (fun fs hr => retOut X hx hret rfl (Or.inr (Or.inl ⟨rfl, rfl, z, rfl⟩)) hd hr) eT hQ hc hs
theorem own_retA {rm : Room} {Q : Option Value → Heap → List Loc → Prop} (X : Stand p l e R s m args below meth c T locs cells slots) (hx : p.tables.exec = Jvm.exec) (hlk : meth.locks = false) {t : FieldType} (hret : meth.sig.returnType = some t) {w : Value} (hn : narrow t w = w) (ht : t.isReference = true) (hw : w.isRef = true) {pc : Nat} {Ls : Array Slot} {rest : List Value} (hd : decode c.code pc = .ok (.areturn, 1))
    (eT : T.heap = h) (hQ : Q (some w) h locs) (hc : cells ≤ rm.cells) (hs : slots ≤ rm.slots) : own_Fin p e below (own_PostN s rm Q) T (mkF m pc Ls (w :: rest)) :=
  own_ret X hlk (fun q => by rw [hret] at q; cases q) (fun fs hr => retOut X hx hret hn (Or.inr (Or.inr (Or.inr (Or.inr ⟨rfl, ht, hw⟩)))) hd hr) eT hQ hc hs
/-- a constructor, by its contract -/
theorem own_callC {y : MethodName} {bytes : ByteArray} {maxL : Nat} {rm : Room} {Q : Option Value → Heap → List Loc → Prop} {own : String} {index W : Nat} (X : Stand p l e R s m args below meth c T locs cells slots) (hx : p.tables.exec = Jvm.exec) (hZ : Z.Warmed39 s.vm) (hown : s.vm.findClass own = some m.cls) (hy1 : y.name = "<init>")
    (w1 : (Cond.methodLink own index y).before a0 Z = true) (w2 : (Cond.instanceMethod y).before a0 Z = true) (wc : (Cond.code y bytes maxL none).before a0 Z = true) (wz : (Cond.initialized y.cls).before a0 Z = true) (hy : y.cls ≠ "java/lang/invoke/MethodHandle" ∧ y.cls ≠ "java/lang/invoke/VarHandle")
    {a : Addr} {g : JFrame} (hg : g.method = m) (hsize : g.locals.size = c.maxLocals) {argsL rest : List Value} (K : own_Con l Z y bytes maxL none rm (.ref a :: argsL).toArray h Q) (eT : T.heap = h) {ps : List FieldType} {r : Option FieldType} (hpd : parseMethodDescriptor y.desc = some ⟨ps, r⟩) (hlen : argsL.length = ps.length) (hstack : g.stack = argsL.reverse ++ .ref a :: rest) (hW : 2 * g.monitorRoom + (rest.map fun v => v.category).sum ≤ W)
    (hdg : decode c.code g.pc = .ok (.invokespecial index, 3)) (hf : rm.frames + 1 ≤ R.frames) (hl : W + (maxL + 11) + rm.locals ≤ R.locals) (hcc : cells + rm.cells ≤ R.cells) (hss : slots + rm.slots ≤ R.slots) :
    ∃ (T' : State) (L : List Loc) (v : Option Value) (h' : Heap), Stand p l e R s m args below meth c T' (locs ++ L) (cells + rm.cells) (slots + rm.slots) ∧ T'.heap = h' ∧ Q v h' L ∧ ∀ t, Steps p.tables e below (T'.setTop { g with pc := g.pc + 3, stack := v.toList ++ rest }) t → Steps p.tables e below (T.setTop g) t := by
  obtain ⟨v, _, ⟨T', L', k', n'⟩, -, X', ⟨L, hQ, l1, l2, l3⟩, st⟩ := X.specialBack hx hy1 hown (mvT hZ w1) (mvT hZ w2) (mvT hZ wc) hy (backOf (K []) hZ wc wz hf hl) hg hsize (Steps.refl _) (a := a) (argsL := argsL) (rest := rest) (lenOf hpd hlen) hstack hW hdg (fun _ _ => ⟨rfl, eT, hcc, hss⟩)
  dsimp only [Pt.U, Pt.locs, Pt.cells, Pt.slots] at X' l1 l2 l3 st hQ
  subst l1 l2 l3
  exact ⟨T', L, v, _, X', rfl, hQ, fun t k => st.trans k⟩
/-- a static method, by its contract -/
theorem own_callS {y : MethodName} {bytes : ByteArray} {maxL : Nat} {ret : Option FieldType} {rm : Room} {Q : Option Value → Heap → List Loc → Prop} {own : String} {index W : Nat} (X : Stand p l e R s m args below meth c T locs cells slots) (hx : p.tables.exec = Jvm.exec) (hZ : Z.Warmed39 s.vm) (hown : s.vm.findClass own = some m.cls)
    (w1 : (Cond.methodLink own index y).before a0 Z = true) (w2 : (Cond.static y).before a0 Z = true) (wc : (Cond.code y bytes maxL ret).before a0 Z = true) (wz : (Cond.initialized y.cls).before a0 Z = true) (hy : y.cls ≠ "java/lang/invoke/MethodHandle" ∧ y.cls ≠ "java/lang/invoke/VarHandle")
    {g : JFrame} (hg : g.method = m) (hsize : g.locals.size = c.maxLocals) {argsL rest : List Value} (K : own_Con l Z y bytes maxL ret rm argsL.toArray h Q) (eT : T.heap = h) {ps : List FieldType} {r : Option FieldType} (hpd : parseMethodDescriptor y.desc = some ⟨ps, r⟩) (hlen : argsL.length = ps.length) (hstack : g.stack = argsL.reverse ++ rest) (hW : 2 * g.monitorRoom + (rest.map fun v => v.category).sum ≤ W)
    (hdg : decode c.code g.pc = .ok (.invokestatic index, 3)) (hf : rm.frames + 1 ≤ R.frames) (hl : W + (maxL + 11) + rm.locals ≤ R.locals) (hcc : cells + rm.cells ≤ R.cells) (hss : slots + rm.slots ≤ R.slots) :
    ∃ (T' : State) (L : List Loc) (v : Option Value) (h' : Heap), Stand p l e R s m args below meth c T' (locs ++ L) (cells + rm.cells) (slots + rm.slots) ∧ T'.heap = h' ∧ Q v h' L ∧ ∀ t, Steps p.tables e below (T'.setTop { g with pc := g.pc + 3, stack := v.toList ++ rest }) t → Steps p.tables e below (T.setTop g) t := by
  obtain ⟨v, _, ⟨T', L', k', n'⟩, -, X', ⟨L, hQ, l1, l2, l3⟩, st⟩ := Jvm.LawKit.callS X hx hown (mvT hZ w1) (mvT hZ w2) (mvT hZ wz) (mvT hZ wc) hy (backOf (K []) hZ wc wz hf hl) hg hsize (argsL := argsL) (rest := rest) (lenOf hpd hlen) hstack hW hdg (fun _ _ => ⟨rfl, eT, hcc, hss⟩)
  dsimp only [Pt.U, Pt.locs, Pt.cells, Pt.slots] at X' l1 l2 l3 st hQ
  subst l1 l2 l3
  exact ⟨T', L, v, _, X', rfl, hQ, fun t k => st _ k⟩
/-- a static method that a class above declares -/
theorem own_callSU {x : MethodName} {owner : String} {bytes : ByteArray} {maxL : Nat} {ret : Option FieldType} {rm : Room} {Q : Option Value → Heap → List Loc → Prop} {own : String} {index W : Nat} (X : Stand p l e R s m args below meth c T locs cells slots) (hx : p.tables.exec = Jvm.exec) (hZ : Z.Warmed39 s.vm) (hown : s.vm.findClass own = some m.cls)
    (w1 : (Cond.methodLink own index x).before a0 Z = true) (ws : (Cond.sameMethod x.cls owner x.name x.desc).before a0 Z = true) (w2 : (Cond.static ⟨owner, x.name, x.desc⟩).before a0 Z = true) (wc : (Cond.code ⟨owner, x.name, x.desc⟩ bytes maxL ret).before a0 Z = true) (wz : (Cond.initialized owner).before a0 Z = true) (hy : owner ≠ "java/lang/invoke/MethodHandle" ∧ owner ≠ "java/lang/invoke/VarHandle")
    {g : JFrame} (hg : g.method = m) (hsize : g.locals.size = c.maxLocals) {argsL rest : List Value} (K : own_Con l Z ⟨owner, x.name, x.desc⟩ bytes maxL ret rm argsL.toArray h Q) (eT : T.heap = h) {ps : List FieldType} {r : Option FieldType} (hpd : parseMethodDescriptor x.desc = some ⟨ps, r⟩) (hlen : argsL.length = ps.length) (hstack : g.stack = argsL.reverse ++ rest) (hW : 2 * g.monitorRoom + (rest.map fun v => v.category).sum ≤ W)
    (hdg : decode c.code g.pc = .ok (.invokestatic index, 3)) (hf : rm.frames + 1 ≤ R.frames) (hl : W + (maxL + 11) + rm.locals ≤ R.locals) (hcc : cells + rm.cells ≤ R.cells) (hss : slots + rm.slots ≤ R.slots) :
    ∃ (T' : State) (L : List Loc) (v : Option Value) (h' : Heap), Stand p l e R s m args below meth c T' (locs ++ L) (cells + rm.cells) (slots + rm.slots) ∧ T'.heap = h' ∧ Q v h' L ∧ ∀ t, Steps p.tables e below (T'.setTop { g with pc := g.pc + 3, stack := v.toList ++ rest }) t → Steps p.tables e below (T.setTop g) t := by
  have wc' : (Cond.code ⟨owner, x.name, x.desc⟩ bytes maxL ret).before args s = true := mvT hZ wc
  obtain ⟨mk, hnamed⟩ := Cond.code_named wc'
  obtain ⟨methM, cM, hmethM, -, -, -, -, -, -, hsig⟩ := Cond.code_spec hnamed wc'
  obtain ⟨v, _, ⟨T', L', k', n'⟩, -, X', ⟨L, hQ, l1, l2, l3⟩, st⟩ := X.staticBackUp hx hown (mvT hZ w1) (mvT hZ ws) (mvT hZ w2) (mvT hZ wz) hnamed hmethM hsig hy (backOf (K []) hZ wc wz hf hl) hg hsize (Steps.refl _) (argsL := argsL) (rest := rest) (lenOf hpd hlen) hstack hW hdg (fun _ _ => ⟨rfl, eT, hcc, hss⟩)
  dsimp only [Pt.U, Pt.locs, Pt.cells, Pt.slots] at X' l1 l2 l3 st hQ
  subst l1 l2 l3
  exact ⟨T', L, v, _, X', rfl, hQ, fun t k => st.trans k⟩
/-- an instance method that the receiver's class selects, by its contract -/
theorem own_callV {y : MethodName} {C : String} {bytes : ByteArray} {maxL : Nat} {ret : Option FieldType} {rm : Room} {Q : Option Value → Heap → List Loc → Prop} {own : String} {index W : Nat} (X : Stand p l e R s m args below meth c T locs cells slots) (hx : p.tables.exec = Jvm.exec) (hZ : Z.Warmed39 s.vm) (hown : s.vm.findClass own = some m.cls)
    (w1 : (Cond.methodLink own index y).before a0 Z = true) (wd : (Cond.declares y).before a0 Z = true) (wsel : (Cond.selects C y y).before a0 Z = true) (w2 : (Cond.instanceMethod y).before a0 Z = true) (wc : (Cond.code y bytes maxL ret).before a0 Z = true) (wz : (Cond.initialized y.cls).before a0 Z = true) (hy : y.cls ≠ "java/lang/invoke/MethodHandle" ∧ y.cls ≠ "java/lang/invoke/VarHandle")
    {a : Addr} (E : Exa Z h a C) {g : JFrame} (hg : g.method = m) (hsize : g.locals.size = c.maxLocals) {argsL rest : List Value} (K : own_Con l Z y bytes maxL ret rm (.ref a :: argsL).toArray h Q) (eT : T.heap = h) {ps : List FieldType} {r : Option FieldType} (hpd : parseMethodDescriptor y.desc = some ⟨ps, r⟩) (hlen : argsL.length = ps.length) (hstack : g.stack = argsL.reverse ++ .ref a :: rest) (hW : 2 * g.monitorRoom + (rest.map fun v => v.category).sum ≤ W)
    (hdg : decode c.code g.pc = .ok (.invokevirtual index, 3)) (hf : rm.frames + 1 ≤ R.frames) (hl : W + (maxL + 11) + rm.locals ≤ R.locals) (hcc : cells + rm.cells ≤ R.cells) (hss : slots + rm.slots ≤ R.slots) :
    ∃ (T' : State) (L : List Loc) (v : Option Value) (h' : Heap), Stand p l e R s m args below meth c T' (locs ++ L) (cells + rm.cells) (slots + rm.slots) ∧ T'.heap = h' ∧ Q v h' L ∧ ∀ t, Steps p.tables e below (T'.setTop { g with pc := g.pc + 3, stack := v.toList ++ rest }) t → Steps p.tables e below (T.setTop g) t := by
  obtain ⟨cB, kB, q1, q2, q3⟩ := isOf hZ eT E
  obtain ⟨v, _, ⟨T', L', k', n'⟩, -, X', ⟨L, hQ, l1, l2, l3⟩, st⟩ := X.virtualBack hx hown (mvT hZ w1) (mvT hZ wd) (notFace_of_selects (args := #[]) (mvT hZ wsel)) (mvT hZ wsel) (mvT hZ w2) hy (backOf (K []) hZ wc wz hf hl) q1 q3 hg hsize (Steps.refl _) (argsL := argsL) (rest := rest) (lenOf hpd hlen) hstack hW hdg (fun _ _ => ⟨rfl, eT, hcc, hss⟩)
  dsimp only [Pt.U, Pt.locs, Pt.cells, Pt.slots] at X' l1 l2 l3 st hQ
  subst l1 l2 l3
  exact ⟨T', L, v, _, X', rfl, hQ, fun t k => st.trans k⟩
/-- .. that a class above the named one declares -/
theorem own_callVU {x : MethodName} {C owner : String} {bytes : ByteArray} {maxL : Nat} {ret : Option FieldType} {rm : Room} {Q : Option Value → Heap → List Loc → Prop} {own : String} {index W : Nat} (X : Stand p l e R s m args below meth c T locs cells slots) (hx : p.tables.exec = Jvm.exec) (hZ : Z.Warmed39 s.vm) (hown : s.vm.findClass own = some m.cls)
    (w1 : (Cond.methodLink own index x).before a0 Z = true) (ws : (Cond.sameMethod x.cls owner x.name x.desc).before a0 Z = true) (wd : (Cond.declares ⟨owner, x.name, x.desc⟩).before a0 Z = true) (hy : owner ≠ "java/lang/invoke/MethodHandle" ∧ owner ≠ "java/lang/invoke/VarHandle") (wsel : (Cond.selects C x ⟨owner, x.name, x.desc⟩).before a0 Z = true) (w2 : (Cond.instanceMethod ⟨owner, x.name, x.desc⟩).before a0 Z = true) (wc : (Cond.code ⟨owner, x.name, x.desc⟩ bytes maxL ret).before a0 Z = true) (wz : (Cond.initialized owner).before a0 Z = true)
    {a : Addr} (E : Exa Z h a C) {g : JFrame} (hg : g.method = m) (hsize : g.locals.size = c.maxLocals) {argsL rest : List Value} (K : own_Con l Z ⟨owner, x.name, x.desc⟩ bytes maxL ret rm (.ref a :: argsL).toArray h Q) (eT : T.heap = h) {ps : List FieldType} {r : Option FieldType} (hpd : parseMethodDescriptor x.desc = some ⟨ps, r⟩) (hlen : argsL.length = ps.length) (hstack : g.stack = argsL.reverse ++ .ref a :: rest) (hW : 2 * g.monitorRoom + (rest.map fun v => v.category).sum ≤ W)
    (hdg : decode c.code g.pc = .ok (.invokevirtual index, 3)) (hf : rm.frames + 1 ≤ R.frames) (hl : W + (maxL + 11) + rm.locals ≤ R.locals) (hcc : cells + rm.cells ≤ R.cells) (hss : slots + rm.slots ≤ R.slots) :
    ∃ (T' : State) (L : List Loc) (v : Option Value) (h' : Heap), Stand p l e R s m args below meth c T' (locs ++ L) (cells + rm.cells) (slots + rm.slots) ∧ T'.heap = h' ∧ Q v h' L ∧ ∀ t, Steps p.tables e below (T'.setTop { g with pc := g.pc + 3, stack := v.toList ++ rest }) t → Steps p.tables e below (T.setTop g) t := by
  obtain ⟨cB, kB, q1, q2, q3⟩ := isOf hZ eT E
  obtain ⟨v, _, ⟨T', L', k', n'⟩, -, X', ⟨L, hQ, l1, l2, l3⟩, st⟩ := X.virtualBackUp hx hown (mvT hZ w1) (mvT hZ ws) (mvT hZ wd) hy (mvT hZ wsel) (mvT hZ w2) (backOf (K []) hZ wc wz hf hl) q1 q3 hg hsize (Steps.refl _) (argsL := argsL) (rest := rest) (lenOf hpd hlen) hstack hW hdg (fun _ _ => ⟨rfl, eT, hcc, hss⟩)
  dsimp only [Pt.U, Pt.locs, Pt.cells, Pt.slots] at X' l1 l2 l3 st hQ
  subst l1 l2 l3
  exact ⟨T', L, v, _, X', rfl, hQ, fun t k => st.trans k⟩
/-- an object of just this class, no box of the VM's own -/
def own_Obj (Z : State) (h : Heap) (a : Addr) (C : String) : Prop := Exa Z h a C ∧ ∃ cell : Cell, h[a]? = some cell ∧ cell.vm ≠ .unknown
theorem own_Obj.new {a : Addr} {C : String} (E : Exa Z h a C) (N : ∃ cell : Cell, h[a]? = some cell ∧ cell.vm = .none ∧ cell.monitor = {}) : own_Obj Z h a C := by
  obtain ⟨cell, h1, h2, -⟩ := N
  exact ⟨E, cell, h1, by rw [h2]; simp⟩
theorem own_Obj.lt {a : Addr} {C : String} (F : own_Obj Z h a C) : a < h.size := F.1.lt
theorem own_Obj.ext {a : Addr} {C : String} (F : own_Obj Z h a C) (E : Ext h h') : own_Obj Z h' a C := by
  obtain ⟨F, cell, h1, h2⟩ := F
  exact ⟨F.ext E, cell, E.2 _ _ h1, h2⟩
theorem own_Obj.keep {a : Addr} {C : String} {ws : List Addr} (F : own_Obj Z h a C) (K : Keep h h' ws) : own_Obj Z h' a C := by
  obtain ⟨F, cell, h1, h2⟩ := F
  obtain ⟨c', q1, -, q3, -⟩ := K.2.2 a cell h1
  exact ⟨F.keep K, c', q1, by rw [q3]; exact h2⟩
theorem own_Obj.wr {a b : Addr} {C : String} {sl : Nat} {v : Value} (F : own_Obj Z h a C) (W : Wr h h' b sl v) : own_Obj Z h' a C := F.keep (Keep.of_wr W)
theorem own_Obj.fld {a : Addr} {C O n d : String} {k : Nat} (F : own_Obj Z h a C) (wi : (Cond.instantiable C k).before a0 Z = true) (L : Laid Z a0 C O n d) : ∃ v, Fld Z h a O n d v := fld_laid F.1 F.2 wi L
/-- arraylength, of an array known -/
theorem own_alen (X : Stand p l e R s m args below meth c T locs cells slots) (hx : p.tables.exec = Jvm.exec) (hZ : Z.Warmed39 s.vm) (eT : T.heap = h) {a : Addr} {k : ClassId} {ty : FieldType} {z : Int32} {vs : List Value} {dv : Value} (A : Arv Z h a k ty z vs dv) {g : JFrame} (hg : g.method = m) {rest : List Value} (hs : g.stack = .ref a :: rest) (hd : decode c.code g.pc = .ok (.arraylength, 1)) :
    ∀ t, Steps p.tables e below (T.setTop { g with pc := g.pc + 1, stack := .int z :: rest }) t → Steps p.tables e below (T.setTop g) t := by
  obtain ⟨cl, A, q1, S, q3, H, G⟩ := A
  intro t k
  refine X.arraylength hx (by rw [eT]; exact A.1) (State.isArrayOf_alike hZ.alike A.2.1) hg hs hd _ ?_
  rw [len_of S q3]
  exact k
/-- getfield through an entry that is said resolved -/
theorem own_getR (X : Stand p l e R s m args below meth c T locs cells slots) (hx : p.tables.exec = Jvm.exec) (hZ : Z.Warmed39 s.vm) {own O n d : String} {index : Nat} (hown : s.vm.findClass own = some m.cls) (w : (Cond.fieldRef own index O n d).before a0 Z = true) (eT : T.heap = h) {a : Addr} {v : Value} (F : Fld Z h a O n d v)
    {g : JFrame} (hg : g.method = m) {rest : List Value} (hs : g.stack = .ref a :: rest) (hd : decode c.code g.pc = .ok (.getfield index, 3)) :
    ∀ t, Steps p.tables e below (T.setTop { g with pc := g.pc + 3, stack := v :: rest }) t → Steps p.tables e below (T.setTop g) t := by
  have w1 : (Cond.fieldRef own index O n d).before a0 (Z.setVm s.vm) = true := Cond.fieldRef_warmed39 hZ w
  have w2 : (Cond.fieldRef own index O n d).before a0 ((Z.setVm s.vm).setVm T.vm) = true := Cond.fieldRef_warmed (s := Z.setVm s.vm) X.warmed w1
  have hU : Z.Warmed39 T.vm := wtrans hZ X.warmed
  have hown' : ((Z.setVm s.vm).setVm T.vm).vm.findClass own = some m.cls := by
    show T.vm.findClass own = _
    rw [X.warmed.alike.findClass]; exact hown
  obtain ⟨cf, k, i, f, hf, hr⟩ := Cond.fieldRef_spec hown' w2
  obtain ⟨cell, cf2, k2, i2, f2, h1, h2, h3, h4, -, -, h7⟩ := F
  obtain ⟨k', hi, -⟩ := State.fieldFound?_setVm (s := Z) hU.alike h2
  have hf' : (Z.setVm T.vm).fieldFound? O n d = some (cf, k, i, f) := hf
  rw [hi] at hf'
  cases hf'
  intro t k
  subst hg
  jvm_step X.here [X.here.top, hx, hd, getfield.wp_ready (e := e) (s := T) (f := g) X.here.top hr h3 hs (by rw [eT]; exact h1) h4 h7]
  exact k
end OwnKit
end Jvm.RoadKit
namespace Jvm.RoadKit
open Sem ClassFile Op Lib Jvm.Stand Jvm.Free Jvm.LawKit
section OwnBack
variable {p : Program} {l : Launch} {e : Env} {R : Room} {s : State} {m : MethodId} {args : Array Value} {below : List Frame} {meth : Method} {c : Code} {T : State} {locs : List Loc} {cells slots : Nat} {Z : State} {a0 : Array Value} {h h' : Heap}
/-- a constructor, by who pays it -/
theorem own_bcallC {y : MethodName} {bytes : ByteArray} {maxL nc ns : Nat} {Q : Option Value → Heap → List Loc → Prop} {own : String} {index W : Nat} (X : Stand p l e R s m args below meth c T locs cells slots) (hx : p.tables.exec = Jvm.exec) (hZ : Z.Warmed39 s.vm) (hown : s.vm.findClass own = some m.cls) (hy1 : y.name = "<init>")
    (w1 : (Cond.methodLink own index y).before a0 Z = true) (w2 : (Cond.instanceMethod y).before a0 Z = true) (wc : (Cond.code y bytes maxL none).before a0 Z = true) (hy : y.cls ≠ "java/lang/invoke/MethodHandle" ∧ y.cls ≠ "java/lang/invoke/VarHandle")
    {a : Addr} {g : JFrame} (hg : g.method = m) (hsize : g.locals.size = c.maxLocals) {argsL rest : List Value}
    (K : Back l R p e below s args y 3 W (fun A b => b = (.ref a :: argsL).toArray ∧ A.U.heap = h ∧ A.cells + nc ≤ R.cells ∧ A.slots + ns ≤ R.slots) (fun A _ v B => ∃ L, Q v B.U.heap L ∧ B.locs = A.locs ++ L ∧ B.cells = A.cells + nc ∧ B.slots = A.slots + ns))
    (eT : T.heap = h) {ps : List FieldType} {r : Option FieldType} (hpd : parseMethodDescriptor y.desc = some ⟨ps, r⟩) (hlen : argsL.length = ps.length) (hstack : g.stack = argsL.reverse ++ .ref a :: rest) (hW : 2 * g.monitorRoom + (rest.map fun v => v.category).sum ≤ W)
    (hdg : decode c.code g.pc = .ok (.invokespecial index, 3)) (hcc : cells + nc ≤ R.cells) (hss : slots + ns ≤ R.slots) :
    ∃ (T' : State) (L : List Loc) (v : Option Value) (h' : Heap), Stand p l e R s m args below meth c T' (locs ++ L) (cells + nc) (slots + ns) ∧ T'.heap = h' ∧ Q v h' L ∧ ∀ t, Steps p.tables e below (T'.setTop { g with pc := g.pc + 3, stack := v.toList ++ rest }) t → Steps p.tables e below (T.setTop g) t := by
  obtain ⟨v, _, ⟨T', L', k', n'⟩, -, X', ⟨L, hQ, l1, l2, l3⟩, st⟩ := X.specialBack hx hy1 hown (mvT hZ w1) (mvT hZ w2) (mvT hZ wc) hy K hg hsize (Steps.refl _) (a := a) (argsL := argsL) (rest := rest) (lenOf hpd hlen) hstack hW hdg (fun _ _ => ⟨rfl, eT, hcc, hss⟩)
  dsimp only [Pt.U, Pt.locs, Pt.cells, Pt.slots] at X' l1 l2 l3 st hQ
  subst l1 l2 l3
  exact ⟨T', L, v, _, X', rfl, hQ, fun t k => st.trans k⟩
/-- an instance method that the receiver's class selects, by who pays it -/
theorem own_bcallV {y : MethodName} {C : String} {nc ns : Nat} {Q : Option Value → Heap → List Loc → Prop} {own : String} {index W : Nat} (X : Stand p l e R s m args below meth c T locs cells slots) (hx : p.tables.exec = Jvm.exec) (hZ : Z.Warmed39 s.vm) (hown : s.vm.findClass own = some m.cls)
    (w1 : (Cond.methodLink own index y).before a0 Z = true) (wd : (Cond.declares y).before a0 Z = true) (wsel : (Cond.selects C y y).before a0 Z = true) (w2 : (Cond.instanceMethod y).before a0 Z = true) (hy : y.cls ≠ "java/lang/invoke/MethodHandle" ∧ y.cls ≠ "java/lang/invoke/VarHandle")
    {a : Addr} (E : Exa Z h a C) {g : JFrame} (hg : g.method = m) (hsize : g.locals.size = c.maxLocals) {argsL rest : List Value}
    (K : Back l R p e below s args y 3 W (fun A b => b = (.ref a :: argsL).toArray ∧ A.U.heap = h ∧ A.cells + nc ≤ R.cells ∧ A.slots + ns ≤ R.slots) (fun A _ v B => ∃ L, Q v B.U.heap L ∧ B.locs = A.locs ++ L ∧ B.cells = A.cells + nc ∧ B.slots = A.slots + ns))
    (eT : T.heap = h) {ps : List FieldType} {r : Option FieldType} (hpd : parseMethodDescriptor y.desc = some ⟨ps, r⟩) (hlen : argsL.length = ps.length) (hstack : g.stack = argsL.reverse ++ .ref a :: rest) (hW : 2 * g.monitorRoom + (rest.map fun v => v.category).sum ≤ W)
    (hdg : decode c.code g.pc = .ok (.invokevirtual index, 3)) (hcc : cells + nc ≤ R.cells) (hss : slots + ns ≤ R.slots) :
    ∃ (T' : State) (L : List Loc) (v : Option Value) (h' : Heap), Stand p l e R s m args below meth c T' (locs ++ L) (cells + nc) (slots + ns) ∧ T'.heap = h' ∧ Q v h' L ∧ ∀ t, Steps p.tables e below (T'.setTop { g with pc := g.pc + 3, stack := v.toList ++ rest }) t → Steps p.tables e below (T.setTop g) t := by
  obtain ⟨cB, kB, q1, q2, q3⟩ := isOf hZ eT E
  obtain ⟨v, _, ⟨T', L', k', n'⟩, -, X', ⟨L, hQ, l1, l2, l3⟩, st⟩ := X.virtualBack hx hown (mvT hZ w1) (mvT hZ wd) (notFace_of_selects (args := #[]) (mvT hZ wsel)) (mvT hZ wsel) (mvT hZ w2) hy K q1 q3 hg hsize (Steps.refl _) (argsL := argsL) (rest := rest) (lenOf hpd hlen) hstack hW hdg (fun _ _ => ⟨rfl, eT, hcc, hss⟩)
  dsimp only [Pt.U, Pt.locs, Pt.cells, Pt.slots] at X' l1 l2 l3 st hQ
  subst l1 l2 l3
  exact ⟨T', L, v, _, X', rfl, hQ, fun t k => st.trans k⟩
theorem own_nref {u : Value} {C : String} (r : u.isRef = true) : narrow (.object C) u = u := by cases u <;> simp [Value.isRef] at r <;> rfl
theorem own_fref {u : Value} {C : String} (r : u.isRef = true) : fits (.object C) u = true := by cases u <;> simp [Value.isRef] at r <;> rfl
/-- caload, of an array known -/
theorem own_caload (X : Stand p l e R s m args below meth c T locs cells slots) (hx : p.tables.exec = Jvm.exec) (hZ : Z.Warmed39 s.vm) (eT : T.heap = h) {a : Addr} {k : ClassId} {z j v : Int32} {vs : List Value} {dv : Value} (A : Arv Z h a k .char z vs dv) (hj : ¬ j < 0 ∧ j < z) (hv : vs.getD j.toNatClampNeg dv = .int v) {g : JFrame} (hg : g.method = m) {rest : List Value} (hs : g.stack = .int j :: .ref a :: rest) (hd : decode c.code g.pc = .ok (.caload, 1)) :
    ∀ t, Steps p.tables e below (T.setTop { g with pc := g.pc + 1, stack := .int v :: rest }) t → Steps p.tables e below (T.setTop g) t := by
  obtain ⟨cl, A, q1, S, q3, H, G⟩ := A
  intro t k
  exact X.caload hx (j := j) (v := .int v) (by rw [eT]; exact A.1) (State.isArrayOf_alike hZ.alike A.2.1) A.2.2 (inb_of S hj) (H.at (inb_of S hj) hv) hg hs hd _ k
end OwnBack
end Jvm.RoadKit
namespace Jvm.RoadKit
open Sem ClassFile Op Lib Bundle Jvm.Stand Jvm.Free Jvm.LawKit Jvm.Free.SB Jvm.Free.SBG
section OwnWide
variable {p : Program} {l : Launch} {e : Env} {R : Room} {s : State} {m : MethodId} {args : Array Value} {below : List Frame} {meth : Method} {c : Code} {T : State} {locs : List Loc} {cells slots : Nat} {Z : State} {a0 : Array Value} {h h' : Heap} {vm0 : Vm}
abbrev own_PostW (s : State) (rm : Room) (Q : Option Value → Heap → List Loc → Prop) : Outcome → State → Prop := fun o U' => ∃ v L, o = .returned v ∧ Q v U'.heap L ∧ ReturnedEndW s o U' L rm.cells rm.slots
/-- a body's contract where String constants may be loaded: J is what is known of the tables at its start -/
def own_ConW (l : Launch) (Z : State) (J : Vm → Prop) (y : MethodName) (bytes : ByteArray) (maxL : Nat) (ret : Option FieldType) (rm : Room) (as' : Array Value) (h : Heap) (Q : Option Value → Heap → List Loc → Prop) : Prop :=
  ∀ ws : List Cond, MetFree l y (head1 (Cond.code y bytes maxL ret :: ws) rm) (fun a U => a = as' ∧ Z.Warmed39 U.vm ∧ U.heap = h ∧ J U.vm) (fun _ _ _ _ _ => True) (fun _ U o U' => ∃ v L, o = .returned v ∧ Q v U'.heap L ∧ ReturnedEndW U o U' L rm.cells rm.slots)
theorem own_conW {J : Vm → Prop} {y : MethodName} {bytes : ByteArray} {maxL : Nat} {ret : Option FieldType} {rm : Room} {as' : Array Value} {Q : Option Value → Heap → List Loc → Prop} {ls : Array Slot} (hpl : plainName y.cls = true) (ef : ∀ m, entryFrame m as' maxL = mkF m 0 ls [])
    (body : ∀ (p : Program) (e : Env) (s : State) (m : MethodId) (below : List Frame) (meth : Method) (c : Code) (s₁ : State), p.tables.exec = Jvm.exec → c.code = bytes → c.maxLocals = maxL → s.vm.findClass y.cls = some m.cls → meth.name = y.name → meth.sig.returnType = ret → meth.locks = false → Z.Warmed39 s.vm →
      Stand p l e rm (s.setVm s.vm) m as' below meth c s₁ [] 0 0 → s₁.heap = h → s.Since s.vm 0 → J s.vm → own_Fin p e below (own_PostW s rm Q) s₁ (mkF m 0 ls [])) : own_ConW l Z J y bytes maxL ret rm as' h Q := by
  intro ws
  refine MetFree.of_bodySF (plainFor_of_name hpl) hisR ?_
  intro p e s m args below meth c s₁ Bd hml0 hP hK
  obtain ⟨rfl, hZ, hh, hJ⟩ := hP
  have k := body p e s m below meth c s₁ Bd.exec Bd.bytes hml0 (findClass_of_methodNamed Bd.named) (name_of_methodNamed Bd.named Bd.method).1 Bd.returns Bd.notSynchronized hZ (Stand.of_body Bd) (by rw [← hh, Bd.state]; rfl) ((State.WarmedH.refl s).since 0) hJ
  rw [← ef m] at k
  exact k
/-- a contract that loads no constant is one that may -/
theorem own_Con.wide {y : MethodName} {bytes : ByteArray} {maxL : Nat} {ret : Option FieldType} {rm : Room} {as' : Array Value} {Q : Option Value → Heap → List Loc → Prop} {J : Vm → Prop} (K : own_Con l Z y bytes maxL ret rm as' h Q) : own_ConW l Z J y bytes maxL ret rm as' h Q := fun ws =>
  MetFree.mono (K ws) (fun _ _ q => ⟨q.1, q.2.1, q.2.2.1⟩) (fun _ _ _ _ _ q => q) (fun _ _ _ _ _ ⟨v, L, h1, h2, h3, h4, h5⟩ => ⟨v, L, h1, h2, ReturnedEndW.of_narrow h3 h4 h5⟩)
theorem own_retW {rm : Room} {Q : Option Value → Heap → List Loc → Prop} (X : Stand p l e R (s.setVm vm0) m args below meth c T locs cells slots) {k0 : Nat} (hS : s.Since vm0 k0) (hk : k0 ≤ h.size) (hlk : meth.locks = false) {v : Option Value} (hv : meth.sig.returnType = none → v = none) {g : JFrame}
    (st : ∀ fs, (∀ (f : JFrame) (acts : List Action), f.method = m → f.locked = none → f.entered = [] → (doReturn e (T.setTop f) acts v).1 = T.setFrames fs) → Steps p.tables e below (T.setTop g) (T.setFrames fs))
    (eT : T.heap = h) (hQ : Q v h locs) (hc : cells ≤ rm.cells) (hs : slots ≤ rm.slots) : own_Fin p e below (own_PostW s rm Q) T g := by
  obtain ⟨fs, hr, hrun, hended, q1, q2, q3, q4⟩ := X.leaveW hS (by rw [eT]; exact hk) hv hlk
  refine ⟨_, _, st fs hr, hrun, hended, v, locs, rfl, ?_, q1, q2, q3, q4.mono hc hs⟩
  show Q v T.heap locs
  rw [eT]; exact hQ
theorem own_retVW {rm : Room} {Q : Option Value → Heap → List Loc → Prop} (X : Stand p l e R (s.setVm vm0) m args below meth c T locs cells slots) (hx : p.tables.exec = Jvm.exec) {k0 : Nat} (hS : s.Since vm0 k0) (hk : k0 ≤ h.size) (hlk : meth.locks = false) (hret : meth.sig.returnType = none) {pc : Nat} {Ls : Array Slot} (hd : decode c.code pc = .ok (.return_, 1))
    (eT : T.heap = h) (hQ : Q none h locs) (hc : cells ≤ rm.cells) (hs : slots ≤ rm.slots) : own_Fin p e below (own_PostW s rm Q) T (mkF m pc Ls []) :=
  own_retW X hS hk hlk (fun _ => rfl) (fun fs hr => X.returnOut hx hret hd hr) eT hQ hc hs
theorem own_retNW {rm : Room} {Q : Option Value → Heap → List Loc → Prop} (X : Stand p l e R (s.setVm vm0) m args below meth c T locs cells slots) (hx : p.tables.exec = Jvm.exec) {k0 : Nat} (hS : s.Since vm0 k0) (hk : k0 ≤ h.size) (hlk : meth.locks = false) {t : FieldType} (hret : meth.sig.returnType = some t) (ht : t = .boolean ∨ t = .byte ∨ t = .char ∨ t = .short) {pc : Nat} {Ls : Array Slot} {z : Int32} {rest : List Value} (hd : decode c.code pc = .ok (.ireturn, 1))
    (eT : T.heap = h) (hQ : Q (some (.int (nar t z))) h locs) (hc : cells ≤ rm.cells) (hs : slots ≤ rm.slots) : own_Fin p e below (own_PostW s rm Q) T (mkF m pc Ls (.int z :: rest)) :=
  own_retW X hS hk hlk (fun q => by rw [hret] at q; cases q) (fun fs hr => retN X hx hret ht hd hr) eT hQ hc hs
theorem own_retIW {rm : Room} {Q : Option Value → Heap → List Loc → Prop} (X : Stand p l e R (s.setVm vm0) m args below meth c T locs cells slots) (hx : p.tables.exec = Jvm.exec) {k0 : Nat} (hS : s.Since vm0 k0) (hk : k0 ≤ h.size) (hlk : meth.locks = false) (hret : meth.sig.returnType = some .int) {pc : Nat} {Ls : Array Slot} {z : Int32} {rest : List Value} (hd : decode c.code pc = .ok (.ireturn, 1))
    (eT : T.heap = h) (hQ : Q (some (.int z)) h locs) (hc : cells ≤ rm.cells) (hs : slots ≤ rm.slots) : own_Fin p e below (own_PostW s rm Q) T (mkF m pc Ls (.int z :: rest)) :=
  own_retW X hS hk hlk (fun q => by rw [hret] at q; cases q) (fun fs hr => retOut X hx hret rfl (Or.inl ⟨rfl, Or.inl rfl, z, rfl⟩) hd hr) eT hQ hc hs
theorem own_retAW {rm : Room} {Q : Option Value → Heap → List Loc → Prop} (X : Stand p l e R (s.setVm vm0) m args below meth c T locs cells slots) (hx : p.tables.exec = Jvm.exec) {k0 : Nat} (hS : s.Since vm0 k0) (hk : k0 ≤ h.size) (hlk : meth.locks = false) {t : FieldType} (hret : meth.sig.returnType = some t) {w : Value} (hn : narrow t w = w) (ht : t.isReference = true) (hw : w.isRef = true) {pc : Nat} {Ls : Array Slot} {rest : List Value} (hd : decode c.code pc = .ok (.areturn, 1))
    (eT : T.heap = h) (hQ : Q (some w) h locs) (hc : cells ≤ rm.cells) (hs : slots ≤ rm.slots) : own_Fin p e below (own_PostW s rm Q) T (mkF m pc Ls (w :: rest)) :=
  own_retW X hS hk hlk (fun q => by rw [hret] at q; cases q) (fun fs hr => retOut X hx hret hn (Or.inr (Or.inr (Or.inr (Or.inr ⟨rfl, ht, hw⟩)))) hd hr) eT hQ hc hs
/-- who pays a call of such a callee -/
theorem own_backW {J : Vm → Prop} {y : MethodName} {bytes : ByteArray} {maxL : Nat} {ret : Option FieldType} {rm : Room} {len W : Nat} {as' : Array Value} {Q : Option Value → Heap → List Loc → Prop} (K : own_ConW l Z J y bytes maxL ret rm as' h Q)
    (hZ : Z.Warmed39 s.vm) (wc : (Cond.code y bytes maxL ret).before a0 Z = true) (wz : (Cond.initialized y.cls).before a0 Z = true) (hf : rm.frames + 1 ≤ R.frames) (hl : W + (maxL + 11) + rm.locals ≤ R.locals)
    (hJ : ∀ (m : MethodId) (meth : Method) (c : Code) (A : Pt), Stand p l e R s m args below meth c A.U A.locs A.cells A.slots → J A.U.vm) :
    BackS l R p e below s args y len W (fun A a => a = as' ∧ A.U.heap = h ∧ A.cells + rm.cells ≤ R.cells ∧ A.slots + rm.slots ≤ R.slots)
      (fun A _ v B => ∃ L, Q v B.U.heap L ∧ B.locs = A.locs ++ L ∧ B.cells = A.cells + rm.cells ∧ B.slots = A.slots + rm.slots) :=
  BackS.of_freeW (bytes := bytes) (maxL := maxL) (ret := ret) (E := fun _ _ o t L k n => k = rm.cells ∧ n = rm.slots ∧ ∃ v, o = .returned v ∧ Q v t.heap L) (K []) hf hl
    (fun m meth c A a Y hp => have hU : Z.Warmed39 A.U.vm := wtrans hZ Y.warmed
      ⟨by show (Cond.and _ .tt).before a A.U = true; rw [Cond.before_and, mv hU wc]; rfl, mv hU wc, mv hU wz, hp.2.2.1, hp.2.2.2⟩)
    (fun m meth c A a g mk Y hp => ⟨hp.1, wtrans hZ Y.warmed, hp.2.1, hJ m meth c A Y⟩) (fun _ _ _ _ _ _ _ _ _ => trivial)
    (fun _ _ _ _ ⟨v, L, h1, h2, h3⟩ => ⟨L, _, _, h3, rfl, rfl, v, h1, h2⟩)
    (fun m meth c A a g mk v t L k n Y hp _ _ ⟨e1, e2, v', e3, e4⟩ => by cases e3; subst e1 e2; exact ⟨L, e4, rfl, rfl, rfl⟩)
/-- a constructor that may load constants -/
theorem own_callCW {J : Vm → Prop} {y : MethodName} {bytes : ByteArray} {maxL : Nat} {rm : Room} {Q : Option Value → Heap → List Loc → Prop} {own : String} {index W : Nat} (X : Stand p l e R (s.setVm vm0) m args below meth c T locs cells slots) (hx : p.tables.exec = Jvm.exec) (hZ : Z.Warmed39 vm0) (hown : vm0.findClass own = some m.cls) {k0 : Nat} (hS : s.Since vm0 k0) (hk : k0 ≤ h.size) (hy1 : y.name = "<init>")
    (w1 : (Cond.methodLink own index y).before a0 Z = true) (w2 : (Cond.instanceMethod y).before a0 Z = true) (wc : (Cond.code y bytes maxL none).before a0 Z = true) (wz : (Cond.initialized y.cls).before a0 Z = true) (hy : y.cls ≠ "java/lang/invoke/MethodHandle" ∧ y.cls ≠ "java/lang/invoke/VarHandle")
    {a : Addr} {g : JFrame} (hg : g.method = m) (hsize : g.locals.size = c.maxLocals) {argsL rest : List Value} (K : own_ConW l Z J y bytes maxL none rm (.ref a :: argsL).toArray h Q) (hJ : ∀ (m : MethodId) (meth : Method) (c : Code) (A : Pt), Stand p l e R (s.setVm vm0) m args below meth c A.U A.locs A.cells A.slots → J A.U.vm) (eT : T.heap = h) {ps : List FieldType} {r : Option FieldType} (hpd : parseMethodDescriptor y.desc = some ⟨ps, r⟩) (hlen : argsL.length = ps.length) (hstack : g.stack = argsL.reverse ++ .ref a :: rest) (hW : 2 * g.monitorRoom + (rest.map fun v => v.category).sum ≤ W)
    (hdg : decode c.code g.pc = .ok (.invokespecial index, 3)) (hf : rm.frames + 1 ≤ R.frames) (hl : W + (maxL + 11) + rm.locals ≤ R.locals) (hcc : cells + rm.cells ≤ R.cells) (hss : slots + rm.slots ≤ R.slots) :
    ∃ (T' : State) (L : List Loc) (v : Option Value) (h' : Heap), Stand p l e R (s.setVm T'.vm) m args below meth c T' (locs ++ L) (cells + rm.cells) (slots + rm.slots) ∧ T'.heap = h' ∧ s.Since T'.vm h'.size ∧ Z.Warmed39 T'.vm ∧ T'.vm.findClass own = some m.cls ∧ Q v h' L ∧ ∀ t, Steps p.tables e below (T'.setTop { g with pc := g.pc + 3, stack := v.toList ++ rest }) t → Steps p.tables e below (T.setTop g) t := by
  obtain ⟨v, _, ⟨T', L', k', n'⟩, -, X', S', G', ⟨L, hQ, l1, l2, l3⟩, st⟩ := X.specialBackS hx hy1 hown (mvT (s := s.setVm vm0) hZ w1) (mvT (s := s.setVm vm0) hZ w2) (mvT (s := s.setVm vm0) hZ wc) hy (own_backW (s := s.setVm vm0) K hZ wc wz hf hl hJ) hg hsize (Steps.refl _) (a := a) (argsL := argsL) (rest := rest) (lenOf hpd hlen) hstack hW hdg (fun _ _ => ⟨rfl, eT, hcc, hss⟩)
  dsimp only [Pt.U, Pt.locs, Pt.cells, Pt.slots] at X' l1 l2 l3 st hQ S' G'
  subst l1 l2 l3
  obtain ⟨r1, r2, r3, r4⟩ := rebS hS (by rw [← eT] at hk; exact hk) X' S' G' hZ hown
  exact ⟨T', L, v, _, r1, rfl, r2, r3, r4, hQ, fun t k => st.trans k⟩
/-- a static method that may -/
theorem own_callSW {J : Vm → Prop} {y : MethodName} {bytes : ByteArray} {maxL : Nat} {ret : Option FieldType} {rm : Room} {Q : Option Value → Heap → List Loc → Prop} {own : String} {index W : Nat} (X : Stand p l e R (s.setVm vm0) m args below meth c T locs cells slots) (hx : p.tables.exec = Jvm.exec) (hZ : Z.Warmed39 vm0) (hown : vm0.findClass own = some m.cls) {k0 : Nat} (hS : s.Since vm0 k0) (hk : k0 ≤ h.size)
    (w1 : (Cond.methodLink own index y).before a0 Z = true) (w2 : (Cond.static y).before a0 Z = true) (wc : (Cond.code y bytes maxL ret).before a0 Z = true) (wz : (Cond.initialized y.cls).before a0 Z = true) (hy : y.cls ≠ "java/lang/invoke/MethodHandle" ∧ y.cls ≠ "java/lang/invoke/VarHandle")
    {g : JFrame} (hg : g.method = m) (hsize : g.locals.size = c.maxLocals) {argsL rest : List Value} (K : own_ConW l Z J y bytes maxL ret rm argsL.toArray h Q) (hJ : ∀ (m : MethodId) (meth : Method) (c : Code) (A : Pt), Stand p l e R (s.setVm vm0) m args below meth c A.U A.locs A.cells A.slots → J A.U.vm) (eT : T.heap = h) {ps : List FieldType} {r : Option FieldType} (hpd : parseMethodDescriptor y.desc = some ⟨ps, r⟩) (hlen : argsL.length = ps.length) (hstack : g.stack = argsL.reverse ++ rest) (hW : 2 * g.monitorRoom + (rest.map fun v => v.category).sum ≤ W)
    (hdg : decode c.code g.pc = .ok (.invokestatic index, 3)) (hf : rm.frames + 1 ≤ R.frames) (hl : W + (maxL + 11) + rm.locals ≤ R.locals) (hcc : cells + rm.cells ≤ R.cells) (hss : slots + rm.slots ≤ R.slots) :
    ∃ (T' : State) (L : List Loc) (v : Option Value) (h' : Heap), Stand p l e R (s.setVm T'.vm) m args below meth c T' (locs ++ L) (cells + rm.cells) (slots + rm.slots) ∧ T'.heap = h' ∧ s.Since T'.vm h'.size ∧ Z.Warmed39 T'.vm ∧ T'.vm.findClass own = some m.cls ∧ Q v h' L ∧ ∀ t, Steps p.tables e below (T'.setTop { g with pc := g.pc + 3, stack := v.toList ++ rest }) t → Steps p.tables e below (T.setTop g) t := by
  obtain ⟨v, _, ⟨T', L', k', n'⟩, -, X', S', G', ⟨L, hQ, l1, l2, l3⟩, st⟩ := callSS X hx hown (mvT (s := s.setVm vm0) hZ w1) (mvT (s := s.setVm vm0) hZ w2) (mvT (s := s.setVm vm0) hZ wz) (mvT (s := s.setVm vm0) hZ wc) hy (own_backW (s := s.setVm vm0) K hZ wc wz hf hl hJ) hg hsize (argsL := argsL) (rest := rest) (lenOf hpd hlen) hstack hW hdg (fun _ _ => ⟨rfl, eT, hcc, hss⟩)
  dsimp only [Pt.U, Pt.locs, Pt.cells, Pt.slots] at X' l1 l2 l3 st hQ S' G'
  subst l1 l2 l3
  obtain ⟨r1, r2, r3, r4⟩ := rebS hS (by rw [← eT] at hk; exact hk) X' S' G' hZ hown
  exact ⟨T', L, v, _, r1, rfl, r2, r3, r4, hQ, fun t k => st.trans k⟩
end OwnWide
end Jvm.RoadKit
/- laws to paste: Road.backV, Road.lenW, Road.chN, Road.codOf (cut by pick.py; bodies as the Statement names them) -/
namespace Jvm.Pilot.@@N@@
namespace StrChars
open Jvm Sem ClassFile Op Lib Jvm.Stand Jvm.Free.XT Jvm.Free.ALB Jvm.Free.JM Jvm.Free
open Jvm.Lib.Cold (StaticIs)
/-- a char array whose places are chars -/
def Ch (a : Addr) (A : Cell) (U : State) : Prop := Arr .char a A U ∧ Typed .char A
theorem Ch.mv {a : Addr} {A : Cell} {U U' : State} (h : Ch a A U) (hal : U.vm.Alike U'.vm) (hh : U'.heap = U.heap) : Ch a A U' := ⟨h.1.mv hal hh, h.2⟩
theorem Ch.keep {a : Addr} {A : Cell} {U U' : State} (h : Ch a A U) (hal : U.vm.Alike U'.vm) (hk : U'.heap[a]? = some A) : Ch a A U' := ⟨h.1.keep hal hk, h.2⟩
/-- what place i of a char[]'s cell holds -/
def cv (A : Cell) (i : Nat) : Int32 := match A.slots[i]? with | some (.int x) => x | _ => 0
theorem Ch.get {a : Addr} {A : Cell} {U : State} (h : Ch a A U) {i : Nat} (hi : i < A.slots.size) : A.slots[i]? = some (.int (cv A i)) := by
  have e := Array.getElem?_eq_getElem hi
  have f := h.2 i _ e
  unfold cv; rw [e]
  generalize A.slots[i] = v at f
  cases v <;> simp [fits] at f ⊢
/-- the byte that i2b leaves of a char -/
def lo8 (x : Int32) : Int32 := x.toInt8.toInt32
theorem fits_lo8 (y : Int32) : fits .byte (.int (lo8 y)) = true := by
  have h1 := y.toInt8.le_toInt
  have h2 := y.toInt8.toInt_lt
  simp only [lo8, fits, Bool.and_eq_true, decide_eq_true_eq, Int32.le_iff_toInt_le, Int8.toInt_toInt32, show (-128 : Int32).toInt = -128 from by decide, show (127 : Int32).toInt = 127 from by decide]
  omega
/-- A' is A but that each place j of lo .. hi - 1 holds f j -/
def Laid (A A' : Cell) (lo hi : Nat) (f : Nat → Value) : Prop := A'.cls = A.cls ∧ A'.vm = A.vm ∧ A'.slots.size = A.slots.size ∧ ∀ i, A'.slots[i]? = if lo ≤ i ∧ i < hi then some (f i) else A.slots[i]?
theorem Laid.zero (A : Cell) (lo : Nat) (f : Nat → Value) : Laid A A lo (lo + 0) f := ⟨rfl, rfl, rfl, fun i => by rw [if_neg (by omega)]⟩
theorem Laid.step {A Ak : Cell} {lo k : Nat} {f : Nat → Value} {v : Value} (h : Laid A Ak lo k f) (hlo : lo ≤ k) (hk : k < Ak.slots.size) (hv : v = f k) : Laid A (Ak.setSlot k v) lo (k + 1) f := by
  refine ⟨h.1, h.2.1, by simpa [Cell.setSlot] using h.2.2.1, fun i => ?_⟩
  by_cases e : k = i
  · subst e; rw [Cell.slots_setSlot_self v hk, if_pos (by omega), hv]
  · rw [Cell.slots_setSlot_ne v e, h.2.2.2 i]
    by_cases q : lo ≤ i ∧ i < k
    · rw [if_pos q, if_pos (by omega)]
    · rw [if_neg q, if_neg (by omega)]
def U16 : String := "java/lang/StringUTF16"
namespace Cmp5
def yN : MethodName := ⟨"java/lang/StringUTF16", "compress", "([CI[BII)I"⟩
abbrev yB : ByteArray := jdk_52_method_21_code
theorem d0 : decode yB 0 = .ok (.iconst 0, 1) := by decide +kernel
theorem d1 : decode yB 1 = .ok (.istore 5, 2) := by decide +kernel
theorem d3 : decode yB 3 = .ok (.iload 5, 2) := by decide +kernel
theorem d5 : decode yB 5 = .ok (.iload 4, 2) := by decide +kernel
theorem d7 : decode yB 7 = .ok (.if_icmp (.ge) 37, 3) := by decide +kernel
theorem d10 : decode yB 10 = .ok (.aload_n 0, 1) := by decide +kernel
theorem d11 : decode yB 11 = .ok (.iload_n 1, 1) := by decide +kernel
theorem d12 : decode yB 12 = .ok (.caload, 1) := by decide +kernel
theorem d13 : decode yB 13 = .ok (.istore 6, 2) := by decide +kernel
theorem d15 : decode yB 15 = .ok (.iload 6, 2) := by decide +kernel
theorem d17 : decode yB 17 = .ok (.sipush 255, 3) := by decide +kernel
theorem d20 : decode yB 20 = .ok (.if_icmp (.le) 6, 3) := by decide +kernel
theorem d26 : decode yB 26 = .ok (.aload_n 2, 1) := by decide +kernel
theorem d27 : decode yB 27 = .ok (.iload_n 3, 1) := by decide +kernel
theorem d28 : decode yB 28 = .ok (.iload 6, 2) := by decide +kernel
theorem d30 : decode yB 30 = .ok (.i2b, 1) := by decide +kernel
theorem d31 : decode yB 31 = .ok (.bastore, 1) := by decide +kernel
theorem d32 : decode yB 32 = .ok (.iinc 1 1, 3) := by decide +kernel
theorem d35 : decode yB 35 = .ok (.iinc 3 1, 3) := by decide +kernel
theorem d38 : decode yB 38 = .ok (.iinc 5 1, 3) := by decide +kernel
theorem d41 : decode yB 41 = .ok (.goto (-38), 3) := by decide +kernel
theorem d44 : decode yB 44 = .ok (.iload 4, 2) := by decide +kernel
theorem d46 : decode yB 46 = .ok (.ireturn, 1) := by decide +kernel
def site : List Cond := []
def tab : Cond := tabOf yN yB 7 (some .int) site
def P (b : Addr) (A : Cell) (d : Addr) (B : Cell) (o q len : Nat) (args : Array Value) (s : State) : Prop := args = #[.ref b, .int (Int32.ofNat o), .ref d, .int (Int32.ofNat q), .int (Int32.ofNat len)] ∧ Ch b A s ∧ Arr .byte d B s ∧ b ≠ d ∧ o + len ≤ A.slots.size ∧ q + len ≤ B.slots.size ∧ ∀ i, i < len → ¬ 255 < cv A (o + i)
def E (b : Addr) (A : Cell) (d : Addr) (B : Cell) (o q len : Nat) (r : Option Value) (s u : State) : Prop := r = some (.int (Int32.ofNat len)) ∧ ∃ B', Put d B' s u ∧ Laid B B' q (q + len) (fun j => Value.int (lo8 (cv A (o + (j - q)))))
/-- no char of the range above 255: len; the places written hold each char's low byte -/
theorem law (l : Launch) (b : Addr) (A : Cell) (d : Addr) (B : Cell) (o q len : Nat) : Law l yN 5 5 0 0 yB 7 (some .int) site (P b A d B o q len) (E b A d B o q len) (copyLocs d q len) 0 0 := by
  refine Law.of_walk (plainFor_of_name (by decide +kernel)) (by decide +kernel) (by decide +kernel) (by decide) (fun _ _ h => by rw [h.1]; rfl) (fun _ U U' hal hh h => ⟨h.1, h.2.1.mv hal hh, h.2.2.1.mv hal hh, h.2.2.2⟩) (fun r U U' V V' h1 hal h2 h => ⟨h.1, h.2.elim fun B' q => ⟨B', q.1.mv h1 h2, q.2⟩⟩) ?_
  intro p e s m args below meth c s₁ X0 hexec hbytes hml hret hlk hnm hown hh0 W hP
  obtain ⟨rfl, hA, hB, hne, l1, l2, hp⟩ := hP
  have c1 : Steps p.tables e below (s₁.setTop (entryFrame m #[.ref b, .int (Int32.ofNat o), .ref d, .int (Int32.ofNat q), .int (Int32.ofNat len)] 7)) (s₁.setTop (mkF m 0 #[.val (.ref b), .val (.int (Int32.ofNat o)), .val (.ref d), .val (.int (Int32.ofNat q)), .val (.int (Int32.ofNat len)), .unset, .unset] [])) := entry rfl
  have hA0 := hA.1.mv X0.warmed.alike hh0
  have hB0 := hB.mv X0.warmed.alike hh0
  have a31 := hA.1.2.2.2
  have c2 : Steps p.tables e below (s₁.setTop (entryFrame m #[.ref b, .int (Int32.ofNat o), .ref d, .int (Int32.ofNat q), .int (Int32.ofNat len)] 7)) (s₁.setTop (mkF m 3 #[.val (.ref b), .val (.int (Int32.ofNat o)), .val (.ref d), .val (.int (Int32.ofNat q)), .val (.int (Int32.ofNat len)), .val (.int 0), .unset] [])) := c1.trans (by
    refine iconstV X0.here hexec rfl 0 (hb hbytes d0) (by decide) ?_
    refine XS.istore X0.here hexec rfl (hb hbytes d1) rfl rfl ?_
    exact Steps.refl _)
  have loop : ∀ (r i : Nat), i + r = len → ∀ (z : Slot), (z = .unset ∨ ∃ w, z = .val w ∧ w.category = 1) → ∀ (Tl : State) (Bk : Cell), Stand p l e { frames := 0, locals := 0, cells := 0, slots := 0 } s m #[.ref b, .int (Int32.ofNat o), .ref d, .int (Int32.ofNat q), .int (Int32.ofNat len)] below meth c Tl ([] ++ copyLocs d q i) 0 0 → Put d Bk s₁ Tl → Laid B Bk q (q + i) (fun j => Value.int (lo8 (cv A (o + (j - q))))) →
      Steps p.tables e below (s₁.setTop (entryFrame m #[.ref b, .int (Int32.ofNat o), .ref d, .int (Int32.ofNat q), .int (Int32.ofNat len)] 7)) (Tl.setTop (mkF m 3 #[.val (.ref b), .val (.int (Int32.ofNat (o + i))), .val (.ref d), .val (.int (Int32.ofNat (q + i))), .val (.int (Int32.ofNat len)), .val (.int (Int32.ofNat i)), z] [])) → ∃ (T' : State) (B' : Cell) (z' : Slot), Stand p l e { frames := 0, locals := 0, cells := 0, slots := 0 } s m #[.ref b, .int (Int32.ofNat o), .ref d, .int (Int32.ofNat q), .int (Int32.ofNat len)] below meth c T' ([] ++ copyLocs d q len) 0 0 ∧ Put d B' s₁ T' ∧ Laid B B' q (q + len) (fun j => Value.int (lo8 (cv A (o + (j - q))))) ∧
      Steps p.tables e below (s₁.setTop (entryFrame m #[.ref b, .int (Int32.ofNat o), .ref d, .int (Int32.ofNat q), .int (Int32.ofNat len)] 7)) (T'.setTop (mkF m 3 #[.val (.ref b), .val (.int (Int32.ofNat (o + len))), .val (.ref d), .val (.int (Int32.ofNat (q + len))), .val (.int (Int32.ofNat len)), .val (.int (Int32.ofNat len)), z'] [])) := by
    intro r
    induction r with
    | zero =>
      intro i hi z hz Tl Bk Xl pl fl cl
      have hil : i = len := by omega
      rw [hil] at Xl fl cl
      exact ⟨Tl, Bk, z, Xl, pl, fl, cl⟩
    | succ r ih =>
      intro i hi z hz Tl Bk Xl pl fl cl
      have all := X0.warmed.alike.symm.trans Xl.warmed.alike
      have hAl := hA0.keep all (pl.other hne hA0.1)
      have hBk := hB0.like all pl.1 fl.1 fl.2.1 fl.2.2.1
      have hlt : q + i < Bk.slots.size := by rw [fl.2.2.1]; omega
      have c3 : Steps p.tables e below (s₁.setTop (entryFrame m #[.ref b, .int (Int32.ofNat o), .ref d, .int (Int32.ofNat q), .int (Int32.ofNat len)] 7)) (Tl.setTop (mkF m 12 #[.val (.ref b), .val (.int (Int32.ofNat (o + i))), .val (.ref d), .val (.int (Int32.ofNat (q + i))), .val (.int (Int32.ofNat len)), .val (.int (Int32.ofNat i)), z] [.int (Int32.ofNat (o + i)), .ref b])) := cl.trans (by
        refine XS.iload Xl.here hexec rfl (hb hbytes d3) rfl ?_
        refine XS.iload Xl.here hexec rfl (hb hbytes d5) rfl ?_
        refine XS.icmpNo Xl.here hexec rfl (hb hbytes d7) rfl (ii_ge_f (lt32 (by omega) (by omega))) ?_
        refine XS.aloadN Xl.here hexec rfl (hb hbytes d10) rfl rfl ?_
        refine XS.iloadN Xl.here hexec rfl (hb hbytes d11) rfl ?_
        exact Steps.refl _)
      have c4 : Steps p.tables e below (s₁.setTop (entryFrame m #[.ref b, .int (Int32.ofNat o), .ref d, .int (Int32.ofNat q), .int (Int32.ofNat len)] 7)) (Tl.setTop (mkF m 13 #[.val (.ref b), .val (.int (Int32.ofNat (o + i))), .val (.ref d), .val (.int (Int32.ofNat (q + i))), .val (.int (Int32.ofNat len)), .val (.int (Int32.ofNat i)), z] [.int (cv A (o + i))])) := c3.trans (by
        refine Xl.aget hexec hAl rfl (hA.get (i := o + i) (by omega)) rfl rfl (hb hbytes d12) ?_
        exact Steps.refl _)
      have c5 : Steps p.tables e below (s₁.setTop (entryFrame m #[.ref b, .int (Int32.ofNat o), .ref d, .int (Int32.ofNat q), .int (Int32.ofNat len)] 7)) (Tl.setTop (mkF m 15 #[.val (.ref b), .val (.int (Int32.ofNat (o + i))), .val (.ref d), .val (.int (Int32.ofNat (q + i))), .val (.int (Int32.ofNat len)), .val (.int (Int32.ofNat i)), .val (.int (cv A (o + i)))] [])) := c4.trans (by
        refine XS.istoreS Xl.here hexec rfl (hb hbytes d13) rfl rfl hz ?_
        exact Steps.refl _)
      have c6 : Steps p.tables e below (s₁.setTop (entryFrame m #[.ref b, .int (Int32.ofNat o), .ref d, .int (Int32.ofNat q), .int (Int32.ofNat len)] 7)) (Tl.setTop (mkF m 31 #[.val (.ref b), .val (.int (Int32.ofNat (o + i))), .val (.ref d), .val (.int (Int32.ofNat (q + i))), .val (.int (Int32.ofNat len)), .val (.int (Int32.ofNat i)), .val (.int (cv A (o + i)))] [.int (lo8 (cv A (o + i))), .int (Int32.ofNat (q + i)), .ref d])) := c5.trans (by
        refine XS.iload Xl.here hexec rfl (hb hbytes d15) rfl ?_
        refine sipushV Xl.here hexec rfl 255 (hb hbytes d17) (by decide) ?_
        refine XS.icmpYes Xl.here hexec rfl (pc0 := 20) rfl (hb hbytes d20) rfl (ii_le_t (hp i (by omega))) (by decide) rfl ?_
        refine XS.aloadN Xl.here hexec rfl (hb hbytes d26) rfl rfl ?_
        refine XS.iloadN Xl.here hexec rfl (hb hbytes d27) rfl ?_
        refine XS.iload Xl.here hexec rfl (hb hbytes d28) rfl ?_
        refine i2b Xl.here hexec rfl (hb hbytes d30) rfl ?_
        exact Steps.refl _)
      obtain ⟨T7, X7, p7, st7⟩ := Xl.aput hexec hBk rfl hlt rfl (fits_lo8 (cv A (o + i))) (g := (mkF m 31 #[.val (.ref b), .val (.int (Int32.ofNat (o + i))), .val (.ref d), .val (.int (Int32.ofNat (q + i))), .val (.int (Int32.ofNat len)), .val (.int (Int32.ofNat i)), .val (.int (cv A (o + i)))] [.int (lo8 (cv A (o + i))), .int (Int32.ofNat (q + i)), .ref d])) rfl (rest := []) rfl (hb hbytes d31)
      have c8 : Steps p.tables e below (s₁.setTop (entryFrame m #[.ref b, .int (Int32.ofNat o), .ref d, .int (Int32.ofNat q), .int (Int32.ofNat len)] 7)) (T7.setTop (mkF m 32 #[.val (.ref b), .val (.int (Int32.ofNat (o + i))), .val (.ref d), .val (.int (Int32.ofNat (q + i))), .val (.int (Int32.ofNat len)), .val (.int (Int32.ofNat i)), .val (.int (cv A (o + i)))] [])) := c6.trans (st7 _ (Steps.refl _))
      have c9 : Steps p.tables e below (s₁.setTop (entryFrame m #[.ref b, .int (Int32.ofNat o), .ref d, .int (Int32.ofNat q), .int (Int32.ofNat len)] 7)) (T7.setTop (mkF m 3 #[.val (.ref b), .val (.int (Int32.ofNat (o + i) + 1)), .val (.ref d), .val (.int (Int32.ofNat (q + i) + 1)), .val (.int (Int32.ofNat len)), .val (.int (Int32.ofNat i + 1)), .val (.int (cv A (o + i)))] [])) := c8.trans (by
        refine iincV X7.here hexec rfl 1 (hb hbytes d32) (by decide) rfl rfl ?_
        refine iincV X7.here hexec rfl 1 (hb hbytes d35) (by decide) rfl rfl ?_
        refine iincV X7.here hexec rfl 1 (hb hbytes d38) (by decide) rfl rfl ?_
        refine XS.goto X7.here hexec rfl (pc0 := 41) rfl (hb hbytes d41) (by decide) rfl ?_
        exact Steps.refl _)
      have c10 : Steps p.tables e below (s₁.setTop (entryFrame m #[.ref b, .int (Int32.ofNat o), .ref d, .int (Int32.ofNat q), .int (Int32.ofNat len)] 7)) (T7.setTop (mkF m 3 #[.val (.ref b), .val (.int (Int32.ofNat (o + (i + 1)))), .val (.ref d), .val (.int (Int32.ofNat (q + (i + 1)))), .val (.int (Int32.ofNat len)), .val (.int (Int32.ofNat (i + 1))), .val (.int (cv A (o + i)))] [])) := by
        have := c9
        rw [succ32, succ32, succ32] at this
        exact this
      exact ih (i + 1) (by omega) _ (Or.inr ⟨_, rfl, rfl⟩) T7 _ (by rw [copyLocs_step, ← List.append_assoc]; exact X7) (pl.trans p7) (fl.step (by omega) hlt (by simp)) c10
  obtain ⟨T9, B9, z9, X9, p9, f9, g9⟩ := loop len 0 (by omega) .unset (Or.inl rfl) s₁ B (by simpa [copyLocs] using X0) ⟨hB0.1, fun _ _ => rfl, rfl⟩ (Laid.zero _ _ _) c2
  have c11 : Steps p.tables e below (s₁.setTop (entryFrame m #[.ref b, .int (Int32.ofNat o), .ref d, .int (Int32.ofNat q), .int (Int32.ofNat len)] 7)) (T9.setTop (mkF m 46 #[.val (.ref b), .val (.int (Int32.ofNat (o + len))), .val (.ref d), .val (.int (Int32.ofNat (q + len))), .val (.int (Int32.ofNat len)), .val (.int (Int32.ofNat len)), z9] [.int (Int32.ofNat len)])) := g9.trans (by
    refine XS.iload X9.here hexec rfl (hb hbytes d3) rfl ?_
    refine XS.iload X9.here hexec rfl (hb hbytes d5) rfl ?_
    refine XS.icmpYes X9.here hexec rfl (pc0 := 7) rfl (hb hbytes d7) rfl (ii_ge_t (nlt32 (by omega) (Nat.le_refl _))) (by decide) rfl ?_
    refine XS.iload X9.here hexec rfl (hb hbytes d44) rfl ?_
    exact Steps.refl _)
  exact ⟨T9, some (.int (Int32.ofNat len)), _, _, _, X9, by simp, rfl, rfl, (fun h => by cases h), ⟨rfl, B9, p9.from hh0, f9⟩, fun fs hl => c11.trans (X9.ireturnOut hexec hret rfl (Or.inl rfl) (hb hbytes d46) hl)⟩
end Cmp5
namespace Cmp3
def yN : MethodName := ⟨"java/lang/StringUTF16", "compress", "([CII)[B"⟩
abbrev yB : ByteArray := jdk_52_method_16_code
theorem d0 : decode yB 0 = .ok (.iload_n 2, 1) := by decide +kernel
theorem d1 : decode yB 1 = .ok (.newarray .byte, 2) := by decide +kernel
theorem d3 : decode yB 3 = .ok (.astore_n 3, 1) := by decide +kernel
theorem d4 : decode yB 4 = .ok (.aload_n 0, 1) := by decide +kernel
theorem d5 : decode yB 5 = .ok (.iload_n 1, 1) := by decide +kernel
theorem d6 : decode yB 6 = .ok (.aload_n 3, 1) := by decide +kernel
theorem d7 : decode yB 7 = .ok (.iconst 0, 1) := by decide +kernel
theorem d8 : decode yB 8 = .ok (.iload_n 2, 1) := by decide +kernel
theorem d9 : decode yB 9 = .ok (.invokestatic 115, 3) := by decide +kernel
theorem d12 : decode yB 12 = .ok (.istore 4, 2) := by decide +kernel
theorem d14 : decode yB 14 = .ok (.iload 4, 2) := by decide +kernel
theorem d16 : decode yB 16 = .ok (.iload_n 2, 1) := by decide +kernel
theorem d17 : decode yB 17 = .ok (.if_icmp (.eq) 40, 3) := by decide +kernel
theorem d57 : decode yB 57 = .ok (.aload_n 3, 1) := by decide +kernel
theorem d58 : decode yB 58 = .ok (.areturn, 1) := by decide +kernel
def site : List Cond := [.arrayClass .byte, Cmp5.tab] ++ staticW U16 115 Cmp5.yN
def tab : Cond := tabOf yN yB 6 (some (.array .byte)) site
def P (b : Addr) (A : Cell) (o len : Nat) (args : Array Value) (s : State) : Prop := args = #[.ref b, .int (Int32.ofNat o), .int (Int32.ofNat len)] ∧ Ch b A s ∧ o + len ≤ A.slots.size ∧ len ≤ 536870912 ∧ ∀ i, i < len → ¬ 255 < cv A (o + i)
def E (b : Addr) (A : Cell) (o len : Nat) (r : Option Value) (s u : State) : Prop := NewArr .byte "[B" len (fun j => .int (lo8 (cv A (o + j)))) r s u ∧ u.heap.size = s.heap.size + 1
/-- no char of the range above 255: a new byte[] of their low bytes -/
theorem law (l : Launch) (b : Addr) (A : Cell) (o len : Nat) : Law l yN 3 3 1 18 yB 6 (some (.array .byte)) site (P b A o len) (E b A o len) [] 1 len := by
  refine Law.of_walk (plainFor_of_name (by decide +kernel)) (by decide +kernel) (by decide +kernel) (by decide) (fun _ _ h => by rw [h.1]; rfl) (fun _ U U' hal hh h => ⟨h.1, h.2.1.mv hal hh, h.2.2⟩) (fun r U U' V V' h1 hal h2 h => ⟨NewArr.mv r U U' V V' h1 hal h2 h.1, by rw [h1, h2]; exact h.2⟩) ?_
  intro p e s m args below meth c s₁ X0 hexec hbytes hml hret hlk hnm hown hh0 W hP
  obtain ⟨rfl, hA, l1, l2, hp⟩ := hP
  have a31 := hA.1.2.2.2
  have c1 : Steps p.tables e below (s₁.setTop (entryFrame m #[.ref b, .int (Int32.ofNat o), .int (Int32.ofNat len)] 6)) (s₁.setTop (mkF m 0 #[.val (.ref b), .val (.int (Int32.ofNat o)), .val (.int (Int32.ofNat len)), .unset, .unset, .unset] [])) := entry rfl
  have c2 : Steps p.tables e below (s₁.setTop (entryFrame m #[.ref b, .int (Int32.ofNat o), .int (Int32.ofNat len)] 6)) (s₁.setTop (mkF m 1 #[.val (.ref b), .val (.int (Int32.ofNat o)), .val (.int (Int32.ofNat len)), .unset, .unset, .unset] [.int (Int32.ofNat len)])) := c1.trans (by
    refine XS.iloadN X0.here hexec rfl (hb hbytes d0) rfl ?_
    exact Steps.refl _)
  obtain ⟨T3, B3, X3, ba3, bs3, bv3, bh3, bf3, st3⟩ := X0.anew hexec (atype := .byte) (wk W (.arrayClass .byte)) rfl (by show len * 1 ≤ _; omega) (by omega) (g := (mkF m 1 #[.val (.ref b), .val (.int (Int32.ofNat o)), .val (.int (Int32.ofNat len)), .unset, .unset, .unset] [.int (Int32.ofNat len)])) rfl (hb hbytes d1) (rest := []) rfl (Nat.le_refl _) (by show 0 + len ≤ len; omega)
  rw [hh0] at ba3 st3
  have kp3 : XT.Kept s T3 := (XT.Kept.of_eq hh0).push bh3
  have hA3 := hA.keep X3.warmed.alike (kp3 _ _ hA.1.1)
  have hne : b ≠ s.heap.size := hA.1.ne
  have c4 : Steps p.tables e below (s₁.setTop (entryFrame m #[.ref b, .int (Int32.ofNat o), .int (Int32.ofNat len)] 6)) (T3.setTop (mkF m 3 #[.val (.ref b), .val (.int (Int32.ofNat o)), .val (.int (Int32.ofNat len)), .unset, .unset, .unset] [.ref s.heap.size])) := c2.trans (st3 _ (Steps.refl _))
  have c5 : Steps p.tables e below (s₁.setTop (entryFrame m #[.ref b, .int (Int32.ofNat o), .int (Int32.ofNat len)] 6)) (T3.setTop (mkF m 9 #[.val (.ref b), .val (.int (Int32.ofNat o)), .val (.int (Int32.ofNat len)), .val (.ref s.heap.size), .unset, .unset] [.int (Int32.ofNat len), .int 0, .ref s.heap.size, .int (Int32.ofNat o), .ref b])) := c4.trans (by
    refine XS.astoreN X3.here hexec rfl (hb hbytes d3) rfl rfl rfl ?_
    refine XS.aloadN X3.here hexec rfl (hb hbytes d4) rfl rfl ?_
    refine XS.iloadN X3.here hexec rfl (hb hbytes d5) rfl ?_
    refine XS.aloadN X3.here hexec rfl (hb hbytes d6) rfl rfl ?_
    refine iconstV X3.here hexec rfl 0 (hb hbytes d7) (by decide) ?_
    refine XS.iloadN X3.here hexec rfl (hb hbytes d8) rfl ?_
    exact Steps.refl _)
  obtain ⟨v6, T6, X6, E6, g6⟩ := X3.callS hexec (Cmp5.law l b A s.heap.size B3 o 0 len) hown (wks W (staticW U16 115 Cmp5.yN)) (wk W Cmp5.tab) (W := 0) (Nat.le_of_ble_eq_true rfl) (Nat.le_of_ble_eq_true rfl) (Nat.le_refl _) (by show 0 + len + 0 ≤ len; omega) (g := (mkF m 9 #[.val (.ref b), .val (.int (Int32.ofNat o)), .val (.int (Int32.ofNat len)), .val (.ref s.heap.size), .unset, .unset] [.int (Int32.ofNat len), .int (Int32.ofNat 0), .ref s.heap.size, .int (Int32.ofNat o), .ref b])) rfl (by rw [hml]; rfl) c5 (argsL := [.ref b, .int (Int32.ofNat o), .ref s.heap.size, .int (Int32.ofNat 0), .int (Int32.ofNat len)]) (rest := []) rfl rfl (by show 2 * 0 + 0 ≤ _; decide) (hb hbytes d9) (⟨rfl, hA3, ba3, hne, l1, by rw [bs3]; simp, hp⟩)
  obtain ⟨rfl, B6, p6, f6⟩ := E6
  have c7 : Steps p.tables e below (s₁.setTop (entryFrame m #[.ref b, .int (Int32.ofNat o), .int (Int32.ofNat len)] 6)) (T6.setTop (mkF m 12 #[.val (.ref b), .val (.int (Int32.ofNat o)), .val (.int (Int32.ofNat len)), .val (.ref s.heap.size), .unset, .unset] [.int (Int32.ofNat len)])) := g6
  have c8 : Steps p.tables e below (s₁.setTop (entryFrame m #[.ref b, .int (Int32.ofNat o), .int (Int32.ofNat len)] 6)) (T6.setTop (mkF m 58 #[.val (.ref b), .val (.int (Int32.ofNat o)), .val (.int (Int32.ofNat len)), .val (.ref s.heap.size), .val (.int (Int32.ofNat len)), .unset] [.ref s.heap.size])) := c7.trans (by
    refine XS.istore X6.here hexec rfl (hb hbytes d12) rfl rfl ?_
    refine XS.iload X6.here hexec rfl (hb hbytes d14) rfl ?_
    refine XS.iloadN X6.here hexec rfl (hb hbytes d16) rfl ?_
    refine XS.icmpYes X6.here hexec rfl (pc0 := 17) rfl (hb hbytes d17) rfl (ii_eq_t rfl) (by decide) rfl ?_
    refine XS.aloadN X6.here hexec rfl (hb hbytes d57) rfl rfl ?_
    exact Steps.refl _)
  have X8 := X6.wide (L' := []) (cells' := 1) (slots' := len) (fun x hx hlt => by
    simp only [List.nil_append, copyLocs, List.mem_map, List.mem_range] at hx
    obtain ⟨i, -, rfl⟩ := hx
    exact absurd hlt (Nat.lt_irrefl _)) (Nat.le_refl _) (by omega)
  exact ⟨T6, some (.ref s.heap.size), _, _, _, X8, rfl, rfl, rfl, (fun h => by cases h), ⟨⟨rfl, B6, ba3.like (X3.warmed.alike.symm.trans X6.warmed.alike) p6.1 f6.1 f6.2.1 f6.2.2.1, f6.2.1.trans bv3, by rw [X6.warmed.alike.findClass, f6.1]; exact bf3, by rw [f6.2.2.1, bs3]; simp, fun j hj => by rw [f6.2.2.2 j, if_pos (by omega)]; rfl, kp3.put p6 (Nat.le_refl _)⟩, by rw [p6.2.2, bh3, hh0]; simp⟩, fun fs hl => c8.trans (X8.areturnOut hexec rfl hret rfl (hb hbytes d58) hl)⟩
end Cmp3
namespace CodL
def yN : MethodName := ⟨"java/lang/StringUTF16", "coderFromArrayLen", "([BI)B"⟩
abbrev yB : ByteArray := jdk_52_method_15_code
theorem d0 : decode yB 0 = .ok (.iload_n 1, 1) := by decide +kernel
theorem d1 : decode yB 1 = .ok (.aload_n 0, 1) := by decide +kernel
theorem d2 : decode yB 2 = .ok (.arraylength, 1) := by decide +kernel
theorem d3 : decode yB 3 = .ok (.isub, 1) := by decide +kernel
theorem d4 : decode yB 4 = .ok (.bipush 31, 2) := by decide +kernel
theorem d6 : decode yB 6 = .ok (.iushr, 1) := by decide +kernel
theorem d7 : decode yB 7 = .ok (.i2b, 1) := by decide +kernel
theorem d8 : decode yB 8 = .ok (.ireturn, 1) := by decide +kernel
def site : List Cond := []
def tab : Cond := tabOf yN yB 2 (some .byte) site
def P (d : Addr) (B : Cell) (args : Array Value) (s : State) : Prop := args = #[.ref d, .int (Int32.ofNat B.slots.size)] ∧ Arr .byte d B s
def E (r : Option Value) (s u : State) : Prop := XT.PureE (some (.int 0)) r s u
/-- an array as long as the number of chars: LATIN1 -/
theorem law (l : Launch) (d : Addr) (B : Cell) : Law l yN 2 2 0 0 yB 2 (some .byte) site (P d B) E [] 0 0 := by
  refine Law.of_walk (plainFor_of_name (by decide +kernel)) (by decide +kernel) (by decide +kernel) (by decide) (fun _ _ h => by rw [h.1]; rfl) (fun _ U U' hal hh h => ⟨h.1, h.2.mv hal hh⟩) (fun r U U' V V' h1 hal h2 h => XT.PureE.mv r U U' V V' h1 hal h2 h) ?_
  intro p e s m args below meth c s₁ X0 hexec hbytes hml hret hlk hnm hown hh0 W hP
  obtain ⟨rfl, hB⟩ := hP
  have hB0 := hB.mv X0.warmed.alike hh0
  have c1 : Steps p.tables e below (s₁.setTop (entryFrame m #[.ref d, .int (Int32.ofNat B.slots.size)] 2)) (s₁.setTop (mkF m 0 #[.val (.ref d), .val (.int (Int32.ofNat B.slots.size))] [])) := entry rfl
  have c2 : Steps p.tables e below (s₁.setTop (entryFrame m #[.ref d, .int (Int32.ofNat B.slots.size)] 2)) (s₁.setTop (mkF m 2 #[.val (.ref d), .val (.int (Int32.ofNat B.slots.size))] [.ref d, .int (Int32.ofNat B.slots.size)])) := c1.trans (by
    refine XS.iloadN X0.here hexec rfl (hb hbytes d0) rfl ?_
    refine XS.aloadN X0.here hexec rfl (hb hbytes d1) rfl rfl ?_
    exact Steps.refl _)
  have c3 : Steps p.tables e below (s₁.setTop (entryFrame m #[.ref d, .int (Int32.ofNat B.slots.size)] 2)) (s₁.setTop (mkF m 8 #[.val (.ref d), .val (.int (Int32.ofNat B.slots.size))] [.int (lo8 (ushr (Int32.ofNat B.slots.size - Int32.ofNat B.slots.size) 31))])) := c2.trans (by
    refine X0.alen hexec hB0 rfl rfl (hb hbytes d2) ?_
    refine XS.isub X0.here hexec rfl (hb hbytes d3) rfl ?_
    refine bipushV X0.here hexec rfl 31 (hb hbytes d4) (by decide) ?_
    refine iushr X0.here hexec rfl (hb hbytes d6) rfl ?_
    refine i2b X0.here hexec rfl (hb hbytes d7) rfl ?_
    exact Steps.refl _)
  have e0 : lo8 (ushr (Int32.ofNat B.slots.size - Int32.ofNat B.slots.size) 31) = 0 := by rw [Int32.sub_self]; decide
  rw [e0] at c3
  exact ⟨s₁, some (.int 0), _, _, _, X0, rfl, rfl, rfl, (fun h => by cases h), ⟨rfl, hh0⟩, fun fs hl => c3.trans (X0.ireturnOut hexec hret rfl (Or.inr (Or.inr (Or.inl rfl))) (hb hbytes d8) hl)⟩
end CodL
/-- the String at a is Latin-1 over a new byte[] (the heap's one new cell): the low bytes of the len chars of A from o on; every cell but a is kept -/
def Got (a : Addr) (D : Cell) (fV fC : Field) (A : Cell) (o len : Nat) (r : Option Value) (s u : State) : Prop := r = none ∧ ∃ D' V : Cell, Blank "java/lang/String" a D' u ∧ Same D D' [fV.slot, fC.slot] ∧ D'.slots[fV.slot]? = some (.ref s.heap.size) ∧ D'.slots[fC.slot]? = some (.int 0) ∧ Arr .byte s.heap.size V u ∧ V.vm = .none ∧ u.vm.findClass "[B" = some V.cls ∧ V.slots.size = len ∧ (∀ j, j < len → V.slots[j]? = some (.int (lo8 (cv A (o + j))))) ∧ (∀ (y : Addr) (c : Cell), y ≠ a → s.heap[y]? = some c → u.heap[y]? = some c) ∧ u.heap.size = s.heap.size + 1
theorem Got.mv {a : Addr} {D A : Cell} {fV fC : Field} {o len : Nat} : ∀ r (U U' V V' : State), U'.heap = U.heap → V.vm.Alike V'.vm → V'.heap = V.heap → Got a D fV fC A o len r U V → Got a D fV fC A o len r U' V' :=
  fun r U U' V V' h1 hal h2 ⟨e0, D', X, a1, a2, a3, a4, a5, a6, a7, a8, a9, a10, a11⟩ => ⟨e0, D', X, a1.mv hal h2, a2, by rw [h1]; exact a3, a4, by rw [h1]; exact a5.mv hal h2, a6, by rw [hal.findClass]; exact a7, a8, a9, by rw [h1, h2]; exact a10, by rw [h1, h2]; exact a11⟩
namespace New4
def yN : MethodName := ⟨"java/lang/String", "<init>", "([CIILjava/lang/Void;)V"⟩
abbrev yB : ByteArray := jdk_42_method_149_code
theorem d0 : decode yB 0 = .ok (.aload_n 0, 1) := by decide +kernel
theorem d1 : decode yB 1 = .ok (.invokespecial 1, 3) := by decide +kernel
theorem d4 : decode yB 4 = .ok (.iload_n 3, 1) := by decide +kernel
theorem d5 : decode yB 5 = .ok (.ifCond (.ne) 22, 3) := by decide +kernel
theorem d27 : decode yB 27 = .ok (.getstatic 38, 3) := by decide +kernel
theorem d30 : decode yB 30 = .ok (.ifCond (.eq) 28, 3) := by decide +kernel
theorem d33 : decode yB 33 = .ok (.aload_n 1, 1) := by decide +kernel
theorem d34 : decode yB 34 = .ok (.iload_n 2, 1) := by decide +kernel
theorem d35 : decode yB 35 = .ok (.iload_n 3, 1) := by decide +kernel
theorem d36 : decode yB 36 = .ok (.invokestatic 177, 3) := by decide +kernel
theorem d39 : decode yB 39 = .ok (.astore 5, 2) := by decide +kernel
theorem d41 : decode yB 41 = .ok (.aload_n 0, 1) := by decide +kernel
theorem d42 : decode yB 42 = .ok (.aload 5, 2) := by decide +kernel
theorem d44 : decode yB 44 = .ok (.iload_n 3, 1) := by decide +kernel
theorem d45 : decode yB 45 = .ok (.invokestatic 47, 3) := by decide +kernel
theorem d48 : decode yB 48 = .ok (.putfield 15, 3) := by decide +kernel
theorem d51 : decode yB 51 = .ok (.aload_n 0, 1) := by decide +kernel
theorem d52 : decode yB 52 = .ok (.aload 5, 2) := by decide +kernel
theorem d54 : decode yB 54 = .ok (.putfield 9, 3) := by decide +kernel
theorem d57 : decode yB 57 = .ok (.return_, 1) := by decide +kernel
def site : List Cond := [.fieldLink "java/lang/String" 38 "java/lang/String" "COMPACT_STRINGS" "Z", Cmp3.tab, CodL.tab, .laysFinal "java/lang/String" "java/lang/String" "value" "[B", .fieldLink "java/lang/String" 9 "java/lang/String" "value" "[B", .laysFinal "java/lang/String" "java/lang/String" "coder" "B", .fieldLink "java/lang/String" 15 "java/lang/String" "coder" "B"] ++ objW "java/lang/String" 1 ++ staticW "java/lang/String" 177 Cmp3.yN ++ staticW "java/lang/String" 47 CodL.yN
def tab : Cond := tabOf yN yB 6 none site
def P (a : Addr) (D : Cell) (fV fC : Field) (b : Addr) (A : Cell) (z : Int32) (o len : Nat) (args : Array Value) (s : State) : Prop := args = #[.ref a, .ref b, .int (Int32.ofNat o), .int (Int32.ofNat len), .null] ∧ Blank "java/lang/String" a D s ∧ Found "java/lang/String" "value" "[B" fV s ∧ Found "java/lang/String" "coder" "B" fC s ∧ Ch b A s ∧ StaticIs s "java/lang/String" "COMPACT_STRINGS" "Z" (.int z) ∧ ¬ z = 0 ∧ 0 < len ∧ o + len ≤ A.slots.size ∧ len ≤ 536870912 ∧ ∀ i, i < len → ¬ 255 < cv A (o + i)
def E (a : Addr) (D : Cell) (fV fC : Field) (A : Cell) (o len : Nat) (r : Option Value) (s u : State) : Prop := Got a D fV fC A o len r s u
/-- len > 0, no char of the range above 255: a Latin-1 String of their low bytes -/
theorem law (l : Launch) (a : Addr) (D : Cell) (fV fC : Field) (b : Addr) (A : Cell) (z : Int32) (o len : Nat) : Law l yN 5 4 2 35 yB 6 none site (P a D fV fC b A z o len) (E a D fV fC A o len) [⟨a, fC.slot⟩, ⟨a, fV.slot⟩] 1 len := by
  refine Law.of_walk (plainFor_of_name (by decide +kernel)) (by decide +kernel) (by decide +kernel) (by decide) (fun _ _ h => by rw [h.1]; rfl) (fun _ U U' hal hh h => ⟨h.1, h.2.1.mv hal hh, h.2.2.1.al hal, h.2.2.2.1.al hal, h.2.2.2.2.1.mv hal hh, h.2.2.2.2.2.1.there hal hh, h.2.2.2.2.2.2⟩) (fun r U U' V V' h1 hal h2 h => Got.mv r U U' V V' h1 hal h2 h) ?_
  intro p e s m args below meth c s₁ X0 hexec hbytes hml hret hlk hnm hown hh0 W hP
  obtain ⟨rfl, hB, f1, f2, hA, s1, hz, l0, l1, l2, hp⟩ := hP
  have a31 := hA.1.2.2.2
  have c1 : Steps p.tables e below (s₁.setTop (entryFrame m #[.ref a, .ref b, .int (Int32.ofNat o), .int (Int32.ofNat len), .null] 6)) (s₁.setTop (mkF m 0 #[.val (.ref a), .val (.ref b), .val (.int (Int32.ofNat o)), .val (.int (Int32.ofNat len)), .val .null, .unset] [])) := entry rfl
  have c2 : Steps p.tables e below (s₁.setTop (entryFrame m #[.ref a, .ref b, .int (Int32.ofNat o), .int (Int32.ofNat len), .null] 6)) (s₁.setTop (mkF m 1 #[.val (.ref a), .val (.ref b), .val (.int (Int32.ofNat o)), .val (.int (Int32.ofNat len)), .val .null, .unset] [.ref a])) := c1.trans (by
    refine XS.aloadN X0.here hexec rfl (hb hbytes d0) rfl rfl ?_
    exact Steps.refl _)
  obtain ⟨T3, X3, q3, st3⟩ := X0.oinit hexec hown (wks W (objW "java/lang/String" 1)) (g := (mkF m 1 #[.val (.ref a), .val (.ref b), .val (.int (Int32.ofNat o)), .val (.int (Int32.ofNat len)), .val .null, .unset] [.ref a])) rfl (by rw [hml]; rfl) (rest := []) rfl (hb hbytes d1) (W := 0) (by show 2 * 0 + 0 ≤ _; decide) (Nat.le_of_ble_eq_true rfl) (Nat.le_of_ble_eq_true rfl)
  have hh3 := q3.trans hh0
  have c4 : Steps p.tables e below (s₁.setTop (entryFrame m #[.ref a, .ref b, .int (Int32.ofNat o), .int (Int32.ofNat len), .null] 6)) (T3.setTop (mkF m 27 #[.val (.ref a), .val (.ref b), .val (.int (Int32.ofNat o)), .val (.int (Int32.ofNat len)), .val .null, .unset] [])) := (c2.trans (st3 _ (Steps.refl _))).trans (by
    refine XS.iloadN X3.here hexec rfl (hb hbytes d4) rfl ?_
    refine XS.ifYes X3.here hexec rfl (pc0 := 5) rfl (hb hbytes d5) rfl (i0_ne_t (nz32 (by omega) l0)) (by decide) rfl ?_
    exact Steps.refl _)
  obtain ⟨T5, X5, q5, st5⟩ := X3.sget hexec hown (wk W (.fieldLink "java/lang/String" 38 "java/lang/String" "COMPACT_STRINGS" "Z")) s1 (fun _ _ h => by rw [hh3]; exact h) (g := (mkF m 27 #[.val (.ref a), .val (.ref b), .val (.int (Int32.ofNat o)), .val (.int (Int32.ofNat len)), .val .null, .unset] [])) rfl (hb hbytes d27)
  have hh5 := q5.trans hh3
  have c6 : Steps p.tables e below (s₁.setTop (entryFrame m #[.ref a, .ref b, .int (Int32.ofNat o), .int (Int32.ofNat len), .null] 6)) (T5.setTop (mkF m 30 #[.val (.ref a), .val (.ref b), .val (.int (Int32.ofNat o)), .val (.int (Int32.ofNat len)), .val .null, .unset] [.int z])) := c4.trans (st5 _ (Steps.refl _))
  have c7 : Steps p.tables e below (s₁.setTop (entryFrame m #[.ref a, .ref b, .int (Int32.ofNat o), .int (Int32.ofNat len), .null] 6)) (T5.setTop (mkF m 36 #[.val (.ref a), .val (.ref b), .val (.int (Int32.ofNat o)), .val (.int (Int32.ofNat len)), .val .null, .unset] [.int (Int32.ofNat len), .int (Int32.ofNat o), .ref b])) := c6.trans (by
    refine XS.ifNo X5.here hexec rfl (hb hbytes d30) rfl (i0_eq_f hz) ?_
    refine XS.aloadN X5.here hexec rfl (hb hbytes d33) rfl rfl ?_
    refine XS.iloadN X5.here hexec rfl (hb hbytes d34) rfl ?_
    refine XS.iloadN X5.here hexec rfl (hb hbytes d35) rfl ?_
    exact Steps.refl _)
  obtain ⟨v8, T8, X8, E8, g8⟩ := X5.callS hexec (Cmp3.law l b A o len) hown (wks W (staticW "java/lang/String" 177 Cmp3.yN)) (wk W Cmp3.tab) (W := 0) (Nat.le_of_ble_eq_true rfl) (Nat.le_of_ble_eq_true rfl) (Nat.le_refl _) (by show 0 + len ≤ len; omega) (g := (mkF m 36 #[.val (.ref a), .val (.ref b), .val (.int (Int32.ofNat o)), .val (.int (Int32.ofNat len)), .val .null, .unset] [.int (Int32.ofNat len), .int (Int32.ofNat o), .ref b])) rfl (by rw [hml]; rfl) c7 (argsL := [.ref b, .int (Int32.ofNat o), .int (Int32.ofNat len)]) (rest := []) rfl rfl (by show 2 * 0 + 0 ≤ _; decide) (hb hbytes d36) (⟨rfl, hA.mv X5.warmed.alike hh5, l1, l2, hp⟩)
  obtain ⟨e8, z8⟩ := E8
  obtain ⟨rfl, N, n1, n2, n3, n4, n5, n6⟩ := NewArr.mv _ T5 s _ _ hh5.symm (Vm.Alike.refl _) rfl e8
  rw [hh5] at z8
  have hB1 := hB.keep X8.warmed.alike (n6 _ _ hB.1)
  have hne : s.heap.size ≠ a := (Nat.ne_of_lt (Array.getElem?_eq_some_iff.mp hB.1).1).symm
  have c9 : Steps p.tables e below (s₁.setTop (entryFrame m #[.ref a, .ref b, .int (Int32.ofNat o), .int (Int32.ofNat len), .null] 6)) (T8.setTop (mkF m 39 #[.val (.ref a), .val (.ref b), .val (.int (Int32.ofNat o)), .val (.int (Int32.ofNat len)), .val .null, .unset] [.ref s.heap.size])) := g8
  have c10 : Steps p.tables e below (s₁.setTop (entryFrame m #[.ref a, .ref b, .int (Int32.ofNat o), .int (Int32.ofNat len), .null] 6)) (T8.setTop (mkF m 45 #[.val (.ref a), .val (.ref b), .val (.int (Int32.ofNat o)), .val (.int (Int32.ofNat len)), .val .null, .val (.ref s.heap.size)] [.int (Int32.ofNat N.slots.size), .ref s.heap.size, .ref a])) := by
    have hc : Steps p.tables e below (s₁.setTop (entryFrame m #[.ref a, .ref b, .int (Int32.ofNat o), .int (Int32.ofNat len), .null] 6)) (T8.setTop (mkF m 45 #[.val (.ref a), .val (.ref b), .val (.int (Int32.ofNat o)), .val (.int (Int32.ofNat len)), .val .null, .val (.ref s.heap.size)] [.int (Int32.ofNat len), .ref s.heap.size, .ref a])) := c9.trans (by
      refine XS.astore X8.here hexec rfl (hb hbytes d39) rfl rfl rfl ?_
      refine XS.aloadN X8.here hexec rfl (hb hbytes d41) rfl rfl ?_
      refine XS.aload X8.here hexec rfl (hb hbytes d42) rfl rfl ?_
      refine XS.iloadN X8.here hexec rfl (hb hbytes d44) rfl ?_
      exact Steps.refl _)
    rw [n4]; exact hc
  obtain ⟨v11, T11, X11, E11, g11⟩ := X8.callS hexec (CodL.law l s.heap.size N) hown (wks W (staticW "java/lang/String" 47 CodL.yN)) (wk W CodL.tab) (W := 1) (Nat.le_of_ble_eq_true rfl) (Nat.le_of_ble_eq_true rfl) (Nat.le_refl _) (by show 0 + len + 0 ≤ len; omega) (g := (mkF m 45 #[.val (.ref a), .val (.ref b), .val (.int (Int32.ofNat o)), .val (.int (Int32.ofNat len)), .val .null, .val (.ref s.heap.size)] [.int (Int32.ofNat N.slots.size), .ref s.heap.size, .ref a])) rfl (by rw [hml]; rfl) c10 (argsL := [.ref s.heap.size, .int (Int32.ofNat N.slots.size)]) (rest := [.ref a]) rfl rfl (by show 2 * 0 + (1 + 0) ≤ _; decide) (hb hbytes d45) (⟨rfl, n1⟩)
  obtain ⟨rfl, q11⟩ := E11
  have hB11 := hB1.mv (X8.warmed.alike.symm.trans X11.warmed.alike) q11
  have c12 : Steps p.tables e below (s₁.setTop (entryFrame m #[.ref a, .ref b, .int (Int32.ofNat o), .int (Int32.ofNat len), .null] 6)) (T11.setTop (mkF m 48 #[.val (.ref a), .val (.ref b), .val (.int (Int32.ofNat o)), .val (.int (Int32.ofNat len)), .val .null, .val (.ref s.heap.size)] [.int 0, .ref a])) := g11
  obtain ⟨T13, X13, p13, bl13, sl13, st13⟩ := X11.finit hexec hown (wk W (.fieldLink "java/lang/String" 15 "java/lang/String" "coder" "B")) (Or.inr ⟨_, (wk W (.laysFinal "java/lang/String" "java/lang/String" "coder" "B"))⟩) (Or.inl ⟨rfl, hnm⟩) f2 (Or.inl rfl) hB11 (t := .byte) (by decide +kernel) rfl (g := (mkF m 48 #[.val (.ref a), .val (.ref b), .val (.int (Int32.ofNat o)), .val (.int (Int32.ofNat len)), .val .null, .val (.ref s.heap.size)] [.int 0, .ref a])) rfl (rest := []) rfl (hb hbytes d48)
  have c14 : Steps p.tables e below (s₁.setTop (entryFrame m #[.ref a, .ref b, .int (Int32.ofNat o), .int (Int32.ofNat len), .null] 6)) (T13.setTop (mkF m 54 #[.val (.ref a), .val (.ref b), .val (.int (Int32.ofNat o)), .val (.int (Int32.ofNat len)), .val .null, .val (.ref s.heap.size)] [.ref s.heap.size, .ref a])) := (c12.trans (st13 _ (Steps.refl _))).trans (by
    refine XS.aloadN X13.here hexec rfl (hb hbytes d51) rfl rfl ?_
    refine XS.aload X13.here hexec rfl (hb hbytes d52) rfl rfl ?_
    exact Steps.refl _)
  obtain ⟨T15, X15, p15, bl15, sl15, st15⟩ := X13.finit hexec hown (wk W (.fieldLink "java/lang/String" 9 "java/lang/String" "value" "[B")) (Or.inr ⟨_, (wk W (.laysFinal "java/lang/String" "java/lang/String" "value" "[B"))⟩) (Or.inl ⟨rfl, hnm⟩) f1 (Or.inl rfl) bl13 (t := (.array .byte)) (by decide +kernel) rfl (g := (mkF m 54 #[.val (.ref a), .val (.ref b), .val (.int (Int32.ofNat o)), .val (.int (Int32.ofNat len)), .val .null, .val (.ref s.heap.size)] [.ref s.heap.size, .ref a])) rfl (rest := []) rfl (hb hbytes d54)
  have c16 : Steps p.tables e below (s₁.setTop (entryFrame m #[.ref a, .ref b, .int (Int32.ofNat o), .int (Int32.ofNat len), .null] 6)) (T15.setTop (mkF m 57 #[.val (.ref a), .val (.ref b), .val (.int (Int32.ofNat o)), .val (.int (Int32.ofNat len)), .val .null, .val (.ref s.heap.size)] [])) := c14.trans (st15 _ (Steps.refl _))
  have ap := apart (Or.inr ⟨_, (wk W (.laysFinal "java/lang/String" "java/lang/String" "value" "[B"))⟩) (Or.inr ⟨_, (wk W (.laysFinal "java/lang/String" "java/lang/String" "coder" "B"))⟩) f1 f2 (t₁ := .array .byte) (t₂ := .byte) (by decide +kernel) (by decide +kernel) (by decide)
  have al := X8.warmed.alike.symm.trans X15.warmed.alike
  have n7 : T11.heap[s.heap.size]? = some N := by rw [q11]; exact n1.1
  exact ⟨T15, none, _, _, _, X15, by simp, rfl, by omega, (fun _ => rfl), ⟨rfl, _, N, bl15, ((Same.refl D _).set _ (by simp)).set _ (by simp), sl15, (Cell.slots_setSlot_ne _ ap).trans sl13, n1.keep al (p15.other hne (p13.other hne n7)), n2, by rw [al.findClass]; exact n3, n4, n5, fun y c h1 h2 => p15.other h1 (p13.other h1 (by rw [q11]; exact n6 y c h2)), by rw [p15.2.2, p13.2.2, q11]; exact z8⟩, fun fs hl => c16.trans (X15.returnOut hexec hret (hb hbytes d57) hl)⟩
end New4
namespace New1
def yN : MethodName := ⟨"java/lang/String", "<init>", "([C)V"⟩
abbrev yB : ByteArray := jdk_42_method_3_code
theorem d0 : decode yB 0 = .ok (.aload_n 0, 1) := by decide +kernel
theorem d1 : decode yB 1 = .ok (.aload_n 1, 1) := by decide +kernel
theorem d2 : decode yB 2 = .ok (.iconst 0, 1) := by decide +kernel
theorem d3 : decode yB 3 = .ok (.aload_n 1, 1) := by decide +kernel
theorem d4 : decode yB 4 = .ok (.arraylength, 1) := by decide +kernel
theorem d5 : decode yB 5 = .ok (.aconst_null, 1) := by decide +kernel
theorem d6 : decode yB 6 = .ok (.invokespecial 27, 3) := by decide +kernel
theorem d9 : decode yB 9 = .ok (.return_, 1) := by decide +kernel
def site : List Cond := [New4.tab] ++ initW "java/lang/String" 27 New4.yN
def tab : Cond := tabOf yN yB 2 none site
def P (a : Addr) (D : Cell) (fV fC : Field) (b : Addr) (A : Cell) (z : Int32) (args : Array Value) (s : State) : Prop := args = #[.ref a, .ref b] ∧ Blank "java/lang/String" a D s ∧ Found "java/lang/String" "value" "[B" fV s ∧ Found "java/lang/String" "coder" "B" fC s ∧ Ch b A s ∧ StaticIs s "java/lang/String" "COMPACT_STRINGS" "Z" (.int z) ∧ ¬ z = 0 ∧ 0 < A.slots.size ∧ A.slots.size ≤ 536870912 ∧ ∀ i, i < A.slots.size → ¬ 255 < cv A i
def E (a : Addr) (D : Cell) (fV fC : Field) (A : Cell) (r : Option Value) (s u : State) : Prop := Got a D fV fC A 0 A.slots.size r s u
/-- new String(chars), not empty, no char above 255: a Latin-1 String of their low bytes -/
theorem law (l : Launch) (a : Addr) (D : Cell) (fV fC : Field) (b : Addr) (A : Cell) (z : Int32) : Law l yN 2 1 3 52 yB 2 none site (P a D fV fC b A z) (E a D fV fC A) [⟨a, fC.slot⟩, ⟨a, fV.slot⟩] 1 A.slots.size := by
  refine Law.of_walk (plainFor_of_name (by decide +kernel)) (by decide +kernel) (by decide +kernel) (by decide) (fun _ _ h => by rw [h.1]; rfl) (fun _ U U' hal hh h => ⟨h.1, h.2.1.mv hal hh, h.2.2.1.al hal, h.2.2.2.1.al hal, h.2.2.2.2.1.mv hal hh, h.2.2.2.2.2.1.there hal hh, h.2.2.2.2.2.2⟩) (fun r U U' V V' h1 hal h2 h => Got.mv r U U' V V' h1 hal h2 h) ?_
  intro p e s m args below meth c s₁ X0 hexec hbytes hml hret hlk hnm hown hh0 W hP
  obtain ⟨rfl, hB, f1, f2, hA, s1, hz, l0, l2, hp⟩ := hP
  have c1 : Steps p.tables e below (s₁.setTop (entryFrame m #[.ref a, .ref b] 2)) (s₁.setTop (mkF m 0 #[.val (.ref a), .val (.ref b)] [])) := entry rfl
  have c2 : Steps p.tables e below (s₁.setTop (entryFrame m #[.ref a, .ref b] 2)) (s₁.setTop (mkF m 6 #[.val (.ref a), .val (.ref b)] [.null, .int (Int32.ofNat A.slots.size), .int 0, .ref b, .ref a])) := c1.trans (by
    refine XS.aloadN X0.here hexec rfl (hb hbytes d0) rfl rfl ?_
    refine XS.aloadN X0.here hexec rfl (hb hbytes d1) rfl rfl ?_
    refine iconstV X0.here hexec rfl 0 (hb hbytes d2) (by decide) ?_
    refine XS.aloadN X0.here hexec rfl (hb hbytes d3) rfl rfl ?_
    refine X0.alen hexec (hA.1.mv X0.warmed.alike hh0) rfl rfl (hb hbytes d4) ?_
    refine XS.aconstNull X0.here hexec rfl (hb hbytes d5) ?_
    exact Steps.refl _)
  obtain ⟨v3, T3, X3, E3, g3⟩ := X0.callN hexec (New4.law l a D fV fC b A z 0 A.slots.size) rfl hown (wks W (initW "java/lang/String" 27 New4.yN)) (W New4.tab (by simp only [site, List.mem_cons, List.mem_append, true_or, or_true])) (W := 0) (Nat.le_of_ble_eq_true rfl) (Nat.le_of_ble_eq_true rfl) (Nat.le_refl _) (by show 0 + A.slots.size ≤ A.slots.size; omega) (g := (mkF m 6 #[.val (.ref a), .val (.ref b)] [.null, .int (Int32.ofNat A.slots.size), .int (Int32.ofNat 0), .ref b, .ref a])) rfl (by rw [hml]; rfl) c2 (argsL := [.ref b, .int (Int32.ofNat 0), .int (Int32.ofNat A.slots.size), .null]) (rest := []) rfl rfl (by show 2 * 0 + 0 ≤ _; decide) (hb hbytes d6) (⟨rfl, hB.mv X0.warmed.alike hh0, f1.al X0.warmed.alike, f2.al X0.warmed.alike, hA.mv X0.warmed.alike hh0, s1.there X0.warmed.alike hh0, hz, l0, by omega, l2, fun i hi => by rw [Nat.zero_add]; exact hp i hi⟩)
  have e0 := Got.mv _ s₁ s _ _ hh0.symm (Vm.Alike.refl _) rfl E3
  obtain rfl := e0.1
  have c4 : Steps p.tables e below (s₁.setTop (entryFrame m #[.ref a, .ref b] 2)) (T3.setTop (mkF m 9 #[.val (.ref a), .val (.ref b)] [])) := g3
  exact ⟨T3, none, _, _, _, X3, by simp, rfl, by omega, (fun _ => rfl), e0, fun fs hl => c4.trans (X3.returnOut hexec hret (hb hbytes d9) hl)⟩
theorem pays {l : Launch} {R : Room} {p : Program} {e : Env} {below : List Frame} {s : State} {sargs : Array Value} {len W : Nat} (a : Addr) (D : Cell) (fV fC : Field) (b : Addr) (A : Cell) (z : Int32) (htab : tab.before sargs s = true) (hfr : 4 ≤ R.frames) (hlo : W + 65 ≤ R.locals) :
    Back l R p e below s sargs yN len W (fun A₁ a₁ => A₁.cells + 1 ≤ R.cells ∧ A₁.slots + A.slots.size ≤ R.slots ∧ P a D fV fC b A z a₁ A₁.U) (fun A₁ _ v₁ B₁ => E a D fV fC A v₁ A₁.U B₁.U ∧ B₁.locs = A₁.locs ++ [⟨a, fC.slot⟩, ⟨a, fV.slot⟩] ∧ B₁.cells = A₁.cells + 1 ∧ B₁.slots = A₁.slots + A.slots.size) :=
  (law l a D fV fC b A z).pays htab hfr (by omega)
end New1
/-- the byte, read back as charAt reads it, is the char -/
theorem lo8_mask {x : Int32} (h0 : ¬ x < 0) (h1 : ¬ 255 < x) : lo8 x &&& 255 = x := by
  have t : ∀ k : Fin 256, lo8 (Int32.ofNat k.val) &&& 255 = Int32.ofNat k.val := by decide +kernel
  rw [Int32.lt_iff_toInt_lt] at h0 h1
  have e0 : (0 : Int32).toInt = 0 := rfl
  have e1 : (255 : Int32).toInt = 255 := rfl
  obtain ⟨k, hk⟩ : ∃ k : Nat, x.toInt = k := ⟨x.toInt.toNat, by omega⟩
  have hx : x = Int32.ofNat k := Int32.toInt_inj.mp (by rw [hk, Int32.toInt_ofNat_small (by omega)])
  rw [hx]
  exact t ⟨k, by omega⟩
end StrChars
namespace StrChars.Road
open Jvm Sem ClassFile Op Lib Jvm.Stand Jvm.Free Jvm.Free.XT
open Jvm.Lib.Cold (StaticIs)
abbrev ST : String := "java/lang/String"
/-- every table word that New1's law asks, flat -/
abbrev words : List Jvm.Cond := [.code New1.yN New1.yB 2 none, .initialized ST, .methodLink ST 27 New4.yN, .instanceMethod New4.yN,
  .code New4.yN New4.yB 6 none, .fieldLink ST 38 ST "COMPACT_STRINGS" "Z", .laysFinal ST ST "value" "[B", .fieldLink ST 9 ST "value" "[B", .laysFinal ST ST "coder" "B", .fieldLink ST 15 ST "coder" "B",
  .methodLink ST 1 Lib.objectInit, .instanceMethod Lib.objectInit, .code Lib.objectInit ⟨#[0xb1]⟩ 1 none, .methodLink ST 177 Cmp3.yN, .static Cmp3.yN, .methodLink ST 47 CodL.yN, .static CodL.yN,
  .code Cmp3.yN Cmp3.yB 6 (some (.array .byte)), .initialized U16, .arrayClass .byte, .methodLink U16 115 Cmp5.yN, .static Cmp5.yN, .code Cmp5.yN Cmp5.yB 7 (some .int), .code CodL.yN CodL.yB 2 (some .byte)]
theorem tab_of {a : Array Value} {s : State} (h : ∀ w ∈ words, w.before a s = true) : New1.tab.before a s = true := by
  have h5 : Cmp5.tab.before a s = true := unparts (wk h (.code Cmp5.yN Cmp5.yB 7 (some .int))) (wks h (.initialized Cmp5.yN.cls :: Cmp5.site))
  have hc : CodL.tab.before a s = true := unparts (wk h (.code CodL.yN CodL.yB 2 (some .byte))) (wks h (.initialized CodL.yN.cls :: CodL.site))
  have q5 : ∀ w ∈ Cmp5.tab :: words, w.before a s = true := fun w hw => (List.mem_cons.mp hw).elim (fun e => e ▸ h5) (h w)
  have h3 : Cmp3.tab.before a s = true := unparts (wk q5 (.code Cmp3.yN Cmp3.yB 6 (some (.array .byte)))) (wks q5 (.initialized Cmp3.yN.cls :: Cmp3.site))
  have q3 : ∀ w ∈ Cmp3.tab :: CodL.tab :: words, w.before a s = true := fun w hw => (List.mem_cons.mp hw).elim (fun e => e ▸ h3) fun hw => (List.mem_cons.mp hw).elim (fun e => e ▸ hc) (h w)
  have h4 : New4.tab.before a s = true := unparts (wk q3 (.code New4.yN New4.yB 6 none)) (wks q3 (.initialized New4.yN.cls :: New4.site))
  have q4 : ∀ w ∈ New4.tab :: words, w.before a s = true := fun w hw => (List.mem_cons.mp hw).elim (fun e => e ▸ h4) (h w)
  exact unparts (wk q4 (.code New1.yN New1.yB 2 none)) (wks q4 (.initialized New1.yN.cls :: New1.site))
/-- the words ride from the start Z to the walk's own state -/
theorem moved {Z s : State} {a0 args : Array Value} (hZ : Z.Warmed39 s.vm) (hw : ∀ d ∈ words, d.before a0 Z = true) : ∀ d ∈ words, d.before args s = true := fun d hd => by
  have q := hw d hd
  have t : ∀ d ∈ words, d = .arrayClass .byte ∨ (d.onTables && d.keepsFace) = true := by decide +kernel
  rcases t d hd with rfl | t
  · exact RoadKit.mvA hZ q
  · exact RoadKit.mv hZ q t
/-- WHAT COMES BACK, over the tables of the start Z: h the heap at the call, h' behind it -/
def Q (Z : State) (x : Addr) (A : Cell) (h : Heap) (v : Option Value) (h' : Heap) (L : List Loc) : Prop := v = none ∧ (∀ y ∈ L, y.base = x) ∧ RoadKit.Keep h h' [x] ∧ h'.size = h.size + 1 ∧ RoadKit.Exa Z h' x ST ∧ RoadKit.Fld Z h' x ST "value" "[B" (.ref h.size) ∧ RoadKit.Fld Z h' x ST "coder" "B" (.int 0) ∧
  (∃ V : Cell, RoadKit.Arr Z h' h.size V .byte ∧ V.vm = .none ∧ Z.vm.findClass "[B" = some V.cls ∧ V.slots.size = A.slots.size ∧ ∀ j, j < A.slots.size → V.slots[j]? = some (.int (lo8 (cv A j)))) ∧
  ∀ (O n d : String) (w : Value), RoadKit.Fld Z h x O n d w → RoadKit.slotOf Z O n d ≠ RoadKit.slotOf Z ST "value" "[B" → RoadKit.slotOf Z O n d ≠ RoadKit.slotOf Z ST "coder" "B" → RoadKit.Fld Z h' x O n d w
/-- **new String(chars) AT A CALL, IN THE ROAD'S FORM**: for specialBack behind newO: x the fresh String, b the char[] with the cell A -/
theorem back {p : Program} {l : Launch} {e : Env} {R : Room} {s : State} {args : Array Value} {below : List Frame} {len W : Nat} {Z : State} {a0 : Array Value} {h : Heap} (hZ : Z.Warmed39 s.vm) (hw : ∀ d ∈ words, d.before a0 Z = true) {kI : Nat} (wi : (Jvm.Cond.instantiable ST kI).before a0 Z = true)
    {x b : Addr} {A : Cell} {z : Int32} {v0 c0 : Value} (E : RoadKit.Exa Z h x ST) (V : RoadKit.Fld Z h x ST "value" "[B" v0) (C : RoadKit.Fld Z h x ST "coder" "B" c0) (K : RoadKit.Arr Z h b A .char) (hty : Typed .char A) (S : RoadKit.Sta Z h ST "COMPACT_STRINGS" "Z" (.int z)) (hz : ¬ z = 0)
    (l0 : 0 < A.slots.size) (l2 : A.slots.size ≤ 536870912) (hp : ∀ i, i < A.slots.size → ¬ 255 < cv A i) (hfr : 4 ≤ R.frames) (hlo : W + 65 ≤ R.locals) :
    Back l R p e below s args New1.yN len W (fun P a => a = #[.ref x, .ref b] ∧ P.U.heap = h ∧ P.cells + 1 ≤ R.cells ∧ P.slots + A.slots.size ≤ R.slots)
      (fun P _ v B => ∃ L, Q Z x A h v B.U.heap L ∧ B.locs = P.locs ++ L ∧ B.cells = P.cells + 1 ∧ B.slots = P.slots + A.slots.size) := by
  intro m meth c P g ig mk a X hg hsize hdg hW hn hp'
  obtain ⟨rfl, rfl, r1, r2⟩ := hp'
  have al : Z.vm.Alike P.U.vm := hZ.alike.trans X.warmed.alike
  obtain ⟨D, cfV, kV, iV, fV, hD, gV, stV, knV, obV, asV, slV⟩ := id V
  obtain ⟨D', cfC, kC, iC, fC, hD', gC, stC, -, -, asC, slC⟩ := id C
  cases hD.symm.trans hD'
  obtain ⟨D2, kD, e1, e2, e3, e4, e5⟩ := id E
  cases hD.symm.trans e1
  obtain ⟨c2, k2, i1, i2, i3, -⟩ := Cond.instantiable_spec wi
  cases e2.symm.trans i1
  cases e3.symm.trans i2
  obtain ⟨kU, u1, u2⟩ := al.2.2 _ _ e3
  have hB : Blank ST x D P.U := ⟨hD, ⟨knV, fun q hq => by rw [hq] at obV; cases obV⟩, by rw [al.findClass]; exact e2, kU, u1, by rw [u2]; exact i3, by rw [u2]; exact e5 i3⟩
  have F1 : Found ST "value" "[B" fV P.U := ⟨SBG.found_only al ⟨cfV, kV, iV, gV⟩, stV⟩
  have F2 : Found ST "coder" "B" fC P.U := ⟨SBG.found_only al ⟨cfC, kC, iC, gC⟩, stC⟩
  have hA : Ch b A P.U := ⟨⟨K.1, State.isArrayOf_alike al K.2.1, K.2.2, by omega⟩, hty⟩
  have hS : StaticIs P.U ST "COMPACT_STRINGS" "Z" (.int z) := by
    obtain ⟨cfS, iS, kS, fS, st, cS, t1, t2, t3, t4, t5, t6, t7⟩ := S
    exact StaticIs.there (s := { Z with heap := P.U.heap }) ⟨cfS, iS, kS, fS, st, cS, t1, t2, t3, t4, t5, (fun q => by rw [q] at t6; cases t6), t7⟩ al rfl
  obtain ⟨v, B, X', ⟨⟨hv, E', V', q1, q2, q3, q4, q5, q6, q7, q8, q9, q10, q11⟩, hl, hc, hs⟩, st⟩ := New1.pays x D fV fC b A z (tab_of (moved hZ hw)) hfr hlo m meth c P g ig mk _ X hg hsize hdg hW hn ⟨r1, r2, rfl, hB, F1, F2, hA, hS, hz, l0, l2, hp⟩
  have al' : Z.vm.Alike B.U.vm := hZ.alike.trans X'.warmed.alike
  have hsz : E'.slots.size = D.slots.size := by
    obtain ⟨-, -, -, kB, w1, w2, w3⟩ := q1
    obtain ⟨kB', y1, y2⟩ := al'.2.2 _ _ e3
    rw [q2.2.1] at w1
    cases w1.symm.trans y1
    rw [w3, e5 i3, y2]
  refine ⟨v, B, X', ⟨_, ⟨hv, ?_, ⟨by omega, fun y cy hy hn' => q10 y cy (by simpa using hn') hy, fun y cy hy => ?_⟩, q11, ⟨E', _, q1.1, by rw [q2.2.1]; exact e2, by rw [q2.2.1]; exact e3, by rw [q2.1]; exact obV, fun _ => by rw [hsz]; exact e5 i3⟩,
    ⟨E', cfV, kV, iV, fV, q1.1, gV, stV, by rw [q2.1]; exact knV, by rw [q2.1]; exact obV, by rw [q2.2.1]; exact asV, q3⟩, ⟨E', cfC, kC, iC, fC, q1.1, gC, stC, by rw [q2.1]; exact knV, by rw [q2.1]; exact obV, by rw [q2.2.1]; exact asC, q4⟩,
    ⟨V', ⟨q5.1, State.isArrayOf_alike al'.symm q5.2.1, q5.2.2.1⟩, q6, by rw [← al'.findClass]; exact q7, q8, fun j hj => by have := q9 j hj; rwa [Nat.zero_add] at this⟩, fun O n d w F n1 n2 => ?_⟩, hl, hc, hs⟩, st⟩
  · intro y hy
    simp only [List.mem_cons, List.not_mem_nil, or_false] at hy
    rcases hy with rfl | rfl <;> rfl
  · by_cases q : y = x
    · subst q
      cases hD.symm.trans hy
      exact ⟨E', q1.1, q2.2.1, q2.1, hsz⟩
    · exact ⟨cy, q10 y cy q hy, rfl, rfl, rfl⟩
  · obtain ⟨D3, cf, k, i, f, g1, g2, g3, g4, g5, g6, g7⟩ := F
    cases hD.symm.trans g1
    simp only [RoadKit.slotOf, g2, gV, gC, Option.map_some, Option.getD_some] at n1 n2
    exact ⟨E', cf, k, i, f, q1.1, g2, g3, by rw [q2.1]; exact g4, by rw [q2.1]; exact g5, by rw [q2.2.1]; exact g6, by rw [q2.2.2 f.slot (by simp [n1, n2])]; exact g7⟩
end StrChars.Road
namespace StrChars.Road
open Jvm Sem ClassFile Op Lib Jvm.Stand Jvm.Free Jvm.Free.XT
/-- WHAT COMES BACK, the byte[] as a list of values -/
def QA (Z : State) (x : Addr) (zn : Int32) (cs : List Int32) (h : Heap) (v : Option Value) (h' : Heap) (L : List Loc) : Prop := v = none ∧ (∀ y ∈ L, y.base = x) ∧ RoadKit.Keep h h' [x] ∧ h'.size = h.size + 1 ∧ RoadKit.Exa Z h' x ST ∧ RoadKit.Fld Z h' x ST "value" "[B" (.ref h.size) ∧ RoadKit.Fld Z h' x ST "coder" "B" (.int 0) ∧
  (∃ kb, Z.vm.findClass "[B" = some kb ∧ RoadKit.Arv Z h' h.size kb .byte zn (cs.map fun c => .int (lo8 c)) (.int 0)) ∧
  ∀ (O n d : String) (w : Value), RoadKit.Fld Z h x O n d w → RoadKit.slotOf Z O n d ≠ RoadKit.slotOf Z ST "value" "[B" → RoadKit.slotOf Z O n d ≠ RoadKit.slotOf Z ST "coder" "B" → RoadKit.Fld Z h' x O n d w
/-- **new String(chars) AT A CALL, THE ARRAYS AS LISTS**: the char[] at b holds cs, not empty, no char above 255 -/
theorem backArv {p : Program} {l : Launch} {e : Env} {R : Room} {s : State} {args : Array Value} {below : List Frame} {len W : Nat} {Z : State} {a0 : Array Value} {h : Heap} (hZ : Z.Warmed39 s.vm) (hw : ∀ d ∈ words, d.before a0 Z = true) {kI : Nat} (wi : (Jvm.Cond.instantiable ST kI).before a0 Z = true)
    {x b : Addr} {k : ClassId} {zn z : Int32} {cs : List Int32} {dv v0 c0 : Value} (E : RoadKit.Exa Z h x ST) (V : RoadKit.Fld Z h x ST "value" "[B" v0) (C : RoadKit.Fld Z h x ST "coder" "B" c0) (K : RoadKit.Arv Z h b k .char zn (cs.map Value.int) dv) (S : RoadKit.Sta Z h ST "COMPACT_STRINGS" "Z" (.int z)) (hz : ¬ z = 0)
    (hlen : zn.toNatClampNeg = cs.length) (h0 : 0 < cs.length) (hbig : cs.length ≤ 536870912) (hall : ∀ c ∈ cs, ¬ 255 < c) (hfr : 4 ≤ R.frames) (hlo : W + 65 ≤ R.locals) :
    Back l R p e below s args New1.yN len W (fun P a => a = #[.ref x, .ref b] ∧ P.U.heap = h ∧ P.cells + 1 ≤ R.cells ∧ P.slots + cs.length ≤ R.slots)
      (fun P _ v B => ∃ L, QA Z x zn cs h v B.U.heap L ∧ B.locs = P.locs ++ L ∧ B.cells = P.cells + 1 ∧ B.slots = P.slots + cs.length) := by
  obtain ⟨A, K1, K2, K3, K4, K5, K6⟩ := K
  have e : A.slots.size = cs.length := K3.trans hlen
  have hat : ∀ (i : Nat) (hi : i < cs.length), A.slots[i]? = some (.int cs[i]) := fun i hi => by rw [K5 i (by omega)]; simp [List.getD_eq_getElem?_getD, hi]
  have hcv : ∀ (i : Nat) (hi : i < cs.length), cv A i = cs[i] := fun i hi => by unfold cv; rw [hat i hi]
  have hty : Typed .char A := fun i v hv => by
    have hi : i < A.slots.size := (Array.getElem?_eq_some_iff.mp hv).1
    have q := K5 i hi
    rw [hv] at q
    rw [Option.some.inj q]
    exact K6 i hi
  refine Back.mono (back hZ hw wi E V C K1 hty S hz (by omega) (by omega) (fun i hi => by rw [hcv i (by omega)]; exact hall _ (List.getElem_mem _)) hfr hlo) (fun P a hp => ⟨hp.1, hp.2.1, hp.2.2.1, by rw [e]; exact hp.2.2.2⟩) (fun P a v B hp hq => ?_)
  obtain ⟨L, ⟨q1, q2, q3, q4, q5, q6, q7, ⟨V', v1, v2, v3, v4, v5⟩, q9⟩, hl, hc, hs⟩ := hq
  refine ⟨L, ⟨q1, q2, q3, q4, q5, q6, q7, ⟨V'.cls, v3, V', v1, rfl, by rw [v4, e, hlen], K4, fun i hi => ?_, fun i hi => ?_⟩, q9⟩, hl, hc, by rw [hs, e]⟩
  · have hi' : i < cs.length := by omega
    rw [v5 i (by omega), hcv i hi']; simp [List.getD_eq_getElem?_getD, hi']
  · have hi' : i < cs.length := by omega
    simp only [List.getD_eq_getElem?_getD, List.getElem?_map, List.getElem?_eq_getElem hi', Option.map_some, Option.getD_some]
    exact fits_lo8 _
end StrChars.Road
namespace StrChars.Road
open Jvm Sem ClassFile Op Lib Jvm.Stand Jvm.Free Jvm.Free.XT
/-- WHAT COMES BACK, in the writer's own shape -/
def QV (Z : State) (x : Addr) (N : Int32) (bs : List Int32) (h : Heap) (n0 : Nat) (v : Option Value) (h' : Heap) (L : List Loc) : Prop := v = none ∧ RoadKit.Fr n0 L ∧ RoadKit.Keep h h' [x] ∧ RoadKit.Exa Z h' x ST ∧ RoadKit.Fld Z h' x ST "coder" "B" (.int 0) ∧
  ∃ (t : Addr) (kb : ClassId), n0 ≤ t ∧ h.size ≤ t ∧ ¬ t = x ∧ RoadKit.Fld Z h' x ST "value" "[B" (.ref t) ∧ RoadKit.Arv Z h' t kb .byte N (bs.map Value.int) (.int 0)
/-- **new String(chars) AT A CALL, FOR THE WRITER**: a char[] of n known ints, each 0 to 255 -/
theorem backV {p : Program} {l : Launch} {e : Env} {R : Room} {s : State} {args : Array Value} {below : List Frame} {len W : Nat} {Z : State} {a0 : Array Value} {h : Heap} (hZ : Z.Warmed39 s.vm) (hw : ∀ d ∈ words, d.before a0 Z = true) {kI : Nat} (wi : (Jvm.Cond.instantiable ST kI).before a0 Z = true)
    {x b : Addr} {kC : ClassId} {cs bs : List Int32} {d v0 c0 : Value} {z N : Int32} {n n0 : Nat} (hx0 : n0 ≤ x) (hh0 : n0 ≤ h.size) (E : RoadKit.Exa Z h x ST) (V : RoadKit.Fld Z h x ST "value" "[B" v0) (C : RoadKit.Fld Z h x ST "coder" "B" c0) (K : RoadKit.Arv Z h b kC .char N (cs.map Value.int) d) (S : RoadKit.Sta Z h ST "COMPACT_STRINGS" "Z" (.int z)) (hz : ¬ z = 0)
    (hn : cs.length = n) (hN : N = Int32.ofNat n) (l0 : 0 < n) (l2 : n ≤ 4000) (hp : ∀ c ∈ cs, ¬ c < 0 ∧ ¬ (255 : Int32) < c) (hb : bs = cs.map (fun c => c.toInt8.toInt32)) (hfr : 4 ≤ R.frames) (hlo : W + 65 ≤ R.locals) :
    Back l R p e below s args (⟨"java/lang/String", "<init>", "([C)V"⟩ : MethodName) len W (fun P a => a = #[.ref x, .ref b] ∧ P.U.heap = h ∧ P.cells + 1 ≤ R.cells ∧ P.slots + n ≤ R.slots)
      (fun P _ v B => ∃ L, QV Z x N bs h n0 v B.U.heap L ∧ B.locs = P.locs ++ L ∧ B.cells = P.cells + 1 ∧ B.slots = P.slots + n) := by
  subst hn hN hb
  refine Back.mono (backArv hZ hw wi E V C K S hz (n32 (by omega)) l0 (by omega) (fun c hc => (hp c hc).2) hfr hlo) (fun P a hp => hp) (fun P a v B hp hq => ?_)
  obtain ⟨L, ⟨q1, q2, q3, q4, q5, q6, q7, ⟨kb, v1, v2⟩, q9⟩, hl, hc, hs⟩ := hq
  exact ⟨L, ⟨q1, fun y hy => by rw [q2 y hy]; exact hx0, q3, q5, q7, h.size, kb, hh0, Nat.le_refl _, Nat.ne_of_gt E.lt, q6, by rw [List.map_map]; exact v2⟩, hl, hc, hs⟩
end StrChars.Road
namespace StrChars
open Jvm Sem ClassFile Op Lib Jvm.Stand Jvm.Free.XT Jvm.Free.ALB Jvm.Free.JM Jvm.Free
open Jvm.Lib.Cold (StaticIs)
def hi8 (x : Int32) : Int32 := lo8 (x >>> ((8 : Int32) &&& 31))
/-- what StringUTF16.getChar makes of two bytes -/
def pairCh (u v : Int32) : Int32 := (((u &&& 255) <<< ((0 : Int32) &&& 31)) ||| ((v &&& 255) <<< ((8 : Int32) &&& 31))).toUInt32.toUInt16.toUInt32.toInt32
theorem shr0 (c : Int32) : c >>> ((0 : Int32) &&& 31) = c := by
  have e : ((0 : Int32) &&& 31) = 0 := by decide
  rw [e]
  apply Int32.toBitVec_inj.mp
  rw [Int32.toBitVec_shiftRight]
  have e1 : ((0 : Int32).toBitVec.smod 32) = 0#32 := by decide
  rw [e1, BitVec.sshiftRight_eq']
  exact BitVec.sshiftRight_zero
theorem lo8_and (x : Int32) : (lo8 x &&& 255).toBitVec.toNat = x.toBitVec.toNat % 256 := by
  have h : (lo8 x).toBitVec = (x.toBitVec.signExtend 8).signExtend 32 := by rw [lo8, Int8.toBitVec_toInt32, Int32.toBitVec_toInt8]
  rw [Int32.toBitVec_and, BitVec.toNat_and, h]
  have e : ((x.toBitVec.signExtend 8).signExtend 32).toNat % 256 = x.toBitVec.toNat % 256 := by
    rw [BitVec.toNat_signExtend]
    have hlt := x.toBitVec.isLt
    simp only [BitVec.toNat_setWidth, BitVec.toNat_signExtend]
    split <;> split <;> omega
  rw [← e]
  exact Nat.and_two_pow_sub_one_eq_mod _ 8
theorem pair_says {c : Int32} (h0 : ¬ c < 0) (h1 : ¬ 65535 < c) : pairCh (lo8 c) (hi8 c) = c := by
  rw [Int32.lt_iff_toInt_lt] at h0 h1
  have e0 : (0 : Int32).toInt = 0 := rfl
  have e1 : (65535 : Int32).toInt = 65535 := rfl
  have hc : c.toInt = c.toBitVec.toNat := by
    have := c.toBitVec.isLt
    have e : c.toInt = c.toBitVec.toInt := rfl
    rw [e] at h0 h1
    rw [e]
    rw [BitVec.toInt_eq_toNat_cond] at h0 h1 ⊢
    split at h0 <;> split <;> omega
  have hn : c.toBitVec.toNat < 65536 := by omega
  have a1 := lo8_and c
  have a2 : (hi8 c &&& 255).toBitVec.toNat = c.toBitVec.toNat / 256 := by
    rw [hi8, lo8_and]
    have e : ((8 : Int32) &&& 31) = 8 := by decide
    rw [e, Int32.toBitVec_shiftRight]
    have e2 : ((8 : Int32).toBitVec.smod 32) = 8#32 := by decide
    rw [e2, BitVec.sshiftRight_eq', BitVec.toNat_sshiftRight_of_msb_false (by rw [BitVec.msb_eq_false_iff_two_mul_lt]; omega)]
    show c.toBitVec.toNat >>> 8 % 256 = _
    rw [Nat.shiftRight_eq_div_pow]
    omega
  unfold pairCh
  apply Int32.toBitVec_inj.mp
  apply BitVec.eq_of_toNat_eq
  have f0 : ((0 : Int32) &&& 31) = 0 := by decide
  have f8 : ((8 : Int32) &&& 31) = 8 := by decide
  rw [f0, f8]
  have g : (((lo8 c &&& 255) <<< (0 : Int32)) ||| ((hi8 c &&& 255) <<< (8 : Int32))).toBitVec.toNat = c.toBitVec.toNat := by
    rw [Int32.toBitVec_or, Int32.toBitVec_shiftLeft, Int32.toBitVec_shiftLeft]
    have s0 : ((0 : Int32).toBitVec.smod 32) = 0#32 := by decide
    have s8 : ((8 : Int32).toBitVec.smod 32) = 8#32 := by decide
    rw [s0, s8, BitVec.toNat_or]
    simp only [BitVec.shiftLeft_eq', BitVec.toNat_shiftLeft, a1, a2]
    show (c.toBitVec.toNat % 256) <<< 0 % 2 ^ 32 ||| (c.toBitVec.toNat / 256) <<< 8 % 2 ^ 32 = _
    rw [Nat.shiftLeft_zero, Nat.mod_eq_of_lt (show c.toBitVec.toNat % 256 < 2 ^ 32 by omega), Nat.mod_eq_of_lt (show (c.toBitVec.toNat / 256) <<< 8 < 2 ^ 32 by rw [Nat.shiftLeft_eq]; omega), Nat.or_comm, ← Nat.shiftLeft_add_eq_or_of_lt (by omega), Nat.shiftLeft_eq]
    omega
  show BitVec.toNat (((((lo8 c &&& 255) <<< (0 : Int32)) ||| ((hi8 c &&& 255) <<< (8 : Int32))).toBitVec.setWidth 16).setWidth 32) = _
  rw [BitVec.toNat_setWidth, BitVec.toNat_setWidth, g]
  omega
end StrChars
namespace StrChars
open Jvm Sem ClassFile Op Lib Jvm.Stand Jvm.Free.XT Jvm.Free.ALB Jvm.Free.JM Jvm.Free
open Jvm.Lib.Cold (StaticIs)
theorem shr1 {n : Nat} (h : 2 * n < 2 ^ 31) : Int32.ofNat (2 * n) >>> ((1 : Int32) &&& 31) = Int32.ofNat n := by
  have e : ((1 : Int32) &&& 31) = 1 := by decide
  rw [e]
  apply Int32.toBitVec_inj.mp
  rw [Int32.toBitVec_shiftRight]
  have e1 : ((1 : Int32).toBitVec.smod 32) = 1#32 := by decide
  have hm : (BitVec.ofNat 32 (2 * n)).toNat = 2 * n := by rw [BitVec.toNat_ofNat, Nat.mod_eq_of_lt (by omega)]
  rw [e1, BitVec.sshiftRight_eq']
  apply BitVec.eq_of_toNat_eq
  show ((BitVec.ofNat 32 (2 * n)).sshiftRight 1).toNat = (BitVec.ofNat 32 n).toNat
  rw [BitVec.toNat_sshiftRight_of_msb_false (by rw [BitVec.msb_eq_false_iff_two_mul_lt, hm]; omega), hm, BitVec.toNat_ofNat, Nat.shiftRight_eq_div_pow]
  omega
/-- charAt's cast of a byte read back -/
def chr8 (u : Int32) : Int32 := (u &&& 255).toUInt32.toUInt16.toUInt32.toInt32
theorem chr8_lo8 {c : Int32} (h0 : ¬ c < 0) (h1 : ¬ 255 < c) : chr8 (lo8 c) = c := by
  have t : ∀ k : Fin 256, (Int32.ofNat k.val).toUInt32.toUInt16.toUInt32.toInt32 = Int32.ofNat k.val := by decide +kernel
  unfold chr8
  rw [lo8_mask h0 h1]
  rw [Int32.lt_iff_toInt_lt] at h0 h1
  have e0 : (0 : Int32).toInt = 0 := rfl
  have e1 : (255 : Int32).toInt = 255 := rfl
  obtain ⟨k, hk⟩ : ∃ k : Nat, c.toInt = k := ⟨c.toInt.toNat, by omega⟩
  have hx : c = Int32.ofNat k := Int32.toInt_inj.mp (by rw [hk, Int32.toInt_ofNat_small (by omega)])
  rw [hx]
  exact t ⟨k, by omega⟩
theorem narrow_ch {c : Int32} (h0 : ¬ c < 0) (h1 : ¬ 65535 < c) : narrow .char (.int c) = .int c := by
  have q : narrow .char (.int (pairCh (lo8 c) (hi8 c))) = .int (pairCh (lo8 c) (hi8 c)) := narrow_c _
  rwa [pair_says h0 h1] at q
/-- the array's cell V codes the n chars f 0 .. f (n - 1) by the coder cd, as the JDK does: coder 1 just where some char is above 255 -/
def Cod (cd : Int32) (n : Nat) (f : Nat → Int32) (V : Cell) : Prop := (cd = 0 ∧ V.slots.size = n ∧ ∀ j, j < n → V.slots[j]? = some (.int (lo8 (f j))) ∧ ¬ 255 < f j) ∨ (cd = 1 ∧ V.slots.size = 2 * n ∧ (∀ j, j < n → V.slots[2 * j]? = some (.int (lo8 (f j))) ∧ V.slots[2 * j + 1]? = some (.int (hi8 (f j)))) ∧ ∃ j, j < n ∧ 255 < f j)
theorem Cod.cd {cd : Int32} {n : Nat} {f : Nat → Int32} {V : Cell} (h : Cod cd n f V) : cd = 0 ∨ cd = 1 := h.imp (fun q => q.1) fun q => q.1
theorem Cod.len {cd : Int32} {n : Nat} {f : Nat → Int32} {V : Cell} (h : Cod cd n f V) (hs : V.slots.size < 2 ^ 31) : Int32.ofNat V.slots.size >>> (cd &&& 31) = Int32.ofNat n := by
  rcases h with ⟨rfl, h, -⟩ | ⟨rfl, h, -⟩
  · rw [shr0, h]
  · rw [h, shr1 (by omega)]
/-- **x is a String of the n chars f 0 .. f (n - 1)**, Latin-1 or UTF-16; its array at t has the cell V -/
def Txt (x t : Addr) (V : Cell) (cd : Int32) (n : Nat) (f : Nat → Int32) (U : State) : Prop := Exact "java/lang/String" x U ∧ Has x "java/lang/String" "value" "[B" (.ref t) U ∧ Has x "java/lang/String" "coder" "B" (.int cd) U ∧ XT.Arr .byte t V U ∧ Cod cd n f V ∧ ∀ j, j < n → ¬ f j < 0 ∧ ¬ 65535 < f j
theorem Txt.mv {x t : Addr} {V : Cell} {cd : Int32} {n : Nat} {f : Nat → Int32} {U U' : State} (h : Txt x t V cd n f U) (hal : U.vm.Alike U'.vm) (hh : U'.heap = U.heap) : Txt x t V cd n f U' := ⟨h.1.mv hal hh, h.2.1.mv hal hh, h.2.2.1.mv hal hh, h.2.2.2.1.mv hal hh, h.2.2.2.2⟩
namespace Cdr
def yN : MethodName := ⟨"java/lang/String", "coder", "()B"⟩
abbrev yB : ByteArray := jdk_42_method_152_code
theorem d0 : decode yB 0 = .ok (.getstatic 38, 3) := by decide +kernel
theorem d3 : decode yB 3 = .ok (.ifCond (.eq) 10, 3) := by decide +kernel
theorem d6 : decode yB 6 = .ok (.aload_n 0, 1) := by decide +kernel
theorem d7 : decode yB 7 = .ok (.getfield 15, 3) := by decide +kernel
theorem d10 : decode yB 10 = .ok (.goto 4, 3) := by decide +kernel
theorem d14 : decode yB 14 = .ok (.ireturn, 1) := by decide +kernel
def site : List Cond := [.fieldLink "java/lang/String" 38 "java/lang/String" "COMPACT_STRINGS" "Z", .fieldLink "java/lang/String" 15 "java/lang/String" "coder" "B"]
def tab : Cond := tabOf yN yB 1 (some .byte) site
def P (x : Addr) (cd z : Int32) (args : Array Value) (s : State) : Prop := args = #[.ref x] ∧ Has x "java/lang/String" "coder" "B" (.int cd) s ∧ (cd = 0 ∨ cd = 1) ∧ StaticIs s "java/lang/String" "COMPACT_STRINGS" "Z" (.int z) ∧ ¬ z = 0
def E (cd : Int32) (r : Option Value) (s u : State) : Prop := XT.PureE (some (.int cd)) r s u
theorem law (l : Launch) (x : Addr) (cd z : Int32) : Law l yN 1 0 0 0 yB 1 (some .byte) site (P x cd z) (E cd) [] 0 0 := by
  refine Law.of_walk (plainFor_of_name (by decide +kernel)) (by decide +kernel) (by decide +kernel) (by decide) (fun _ _ h => by rw [h.1]; rfl) (fun _ U U' hal hh h => ⟨h.1, h.2.1.mv hal hh, h.2.2.1, h.2.2.2.1.there hal hh, h.2.2.2.2⟩) (fun r U U' V V' h1 hal h2 h => XT.PureE.mv r U U' V V' h1 hal h2 h) ?_
  intro p e s m args below meth c s₁ X0 hexec hbytes hml hret hlk hnm hown hh0 W hP
  obtain ⟨rfl, hx, hc, s1, hz⟩ := hP
  have c1 : Steps p.tables e below (s₁.setTop (entryFrame m #[.ref x] 1)) (s₁.setTop (mkF m 0 #[.val (.ref x)] [])) := entry rfl
  obtain ⟨T2, X2, q2, st2⟩ := X0.sget hexec hown (wk W (.fieldLink "java/lang/String" 38 "java/lang/String" "COMPACT_STRINGS" "Z")) s1 (fun _ _ h => by rw [hh0]; exact h) (g := (mkF m 0 #[.val (.ref x)] [])) rfl (hb hbytes d0)
  have hh2 := q2.trans hh0
  have c3 : Steps p.tables e below (s₁.setTop (entryFrame m #[.ref x] 1)) (T2.setTop (mkF m 7 #[.val (.ref x)] [.ref x])) := (c1.trans (st2 _ (Steps.refl _))).trans (by
    refine XS.ifNo X2.here hexec rfl (hb hbytes d3) rfl (i0_eq_f hz) ?_
    refine XS.aloadN X2.here hexec rfl (hb hbytes d6) rfl rfl ?_
    exact Steps.refl _)
  obtain ⟨T4, X4, q4, st4⟩ := X2.hget hexec hown (wk W (.fieldLink "java/lang/String" 15 "java/lang/String" "coder" "B")) (hx.mv X2.warmed.alike hh2) (g := (mkF m 7 #[.val (.ref x)] [.ref x])) rfl (rest := []) rfl (hb hbytes d7)
  have c5 : Steps p.tables e below (s₁.setTop (entryFrame m #[.ref x] 1)) (T4.setTop (mkF m 14 #[.val (.ref x)] [.int cd])) := (c3.trans (st4 _ (Steps.refl _))).trans (by
    refine XS.goto X4.here hexec rfl (pc0 := 10) rfl (hb hbytes d10) (by decide) rfl ?_
    exact Steps.refl _)
  exact ⟨T4, some (.int cd), _, _, _, X4, rfl, rfl, rfl, (fun h => by cases h), ⟨rfl, q4.trans hh2⟩, fun fs hl => c5.trans (X4.ireturnOut hexec hret (by rcases hc with rfl | rfl <;> rfl) (Or.inr (Or.inr (Or.inl rfl))) (hb hbytes d14) hl)⟩
end Cdr
namespace Len
def yN : MethodName := ⟨"java/lang/String", "length", "()I"⟩
abbrev yB : ByteArray := jdk_42_method_54_code
theorem d0 : decode yB 0 = .ok (.aload_n 0, 1) := by decide +kernel
theorem d1 : decode yB 1 = .ok (.getfield 9, 3) := by decide +kernel
theorem d4 : decode yB 4 = .ok (.arraylength, 1) := by decide +kernel
theorem d5 : decode yB 5 = .ok (.aload_n 0, 1) := by decide +kernel
theorem d6 : decode yB 6 = .ok (.invokevirtual 335, 3) := by decide +kernel
theorem d9 : decode yB 9 = .ok (.ishr, 1) := by decide +kernel
theorem d10 : decode yB 10 = .ok (.ireturn, 1) := by decide +kernel
def site : List Cond := [.fieldLink "java/lang/String" 9 "java/lang/String" "value" "[B", Cdr.tab] ++ virtW "java/lang/String" 335 "java/lang/String" Cdr.yN Cdr.yN
def tab : Cond := tabOf yN yB 1 (some .int) site
def P (x t : Addr) (V : Cell) (cd : Int32) (n : Nat) (f : Nat → Int32) (z : Int32) (args : Array Value) (s : State) : Prop := args = #[.ref x] ∧ Txt x t V cd n f s ∧ StaticIs s "java/lang/String" "COMPACT_STRINGS" "Z" (.int z) ∧ ¬ z = 0
def E (n : Nat) (r : Option Value) (s u : State) : Prop := XT.PureE (some (.int (Int32.ofNat n))) r s u
/-- length() of a String of n chars, in either coding -/
theorem law (l : Launch) (x t : Addr) (V : Cell) (cd : Int32) (n : Nat) (f : Nat → Int32) (z : Int32) : Law l yN 1 0 1 13 yB 1 (some .int) site (P x t V cd n f z) (E n) [] 0 0 := by
  refine Law.of_walk (plainFor_of_name (by decide +kernel)) (by decide +kernel) (by decide +kernel) (by decide) (fun _ _ h => by rw [h.1]; rfl) (fun _ U U' hal hh h => ⟨h.1, h.2.1.mv hal hh, h.2.2.1.there hal hh, h.2.2.2⟩) (fun r U U' V V' h1 hal h2 h => XT.PureE.mv r U U' V V' h1 hal h2 h) ?_
  intro p e s m args below meth c s₁ X0 hexec hbytes hml hret hlk hnm hown hh0 W hP
  obtain ⟨rfl, hx, s1, hz⟩ := hP
  have v31 := hx.2.2.2.1.2.2.2
  have c1 : Steps p.tables e below (s₁.setTop (entryFrame m #[.ref x] 1)) (s₁.setTop (mkF m 1 #[.val (.ref x)] [.ref x])) := Steps.trans (entry rfl) (by
    show Steps p.tables e below (s₁.setTop (mkF m 0 #[.val (.ref x)] [])) _
    refine XS.aloadN X0.here hexec rfl (hb hbytes d0) rfl rfl ?_
    exact Steps.refl _)
  obtain ⟨T2, X2, q2, st2⟩ := X0.hget hexec hown (wk W (.fieldLink "java/lang/String" 9 "java/lang/String" "value" "[B")) (hx.mv X0.warmed.alike hh0).2.1 (g := (mkF m 1 #[.val (.ref x)] [.ref x])) rfl (rest := []) rfl (hb hbytes d1)
  have hh2 := q2.trans hh0
  have hx2 := hx.mv X2.warmed.alike hh2
  have c3 : Steps p.tables e below (s₁.setTop (entryFrame m #[.ref x] 1)) (T2.setTop (mkF m 6 #[.val (.ref x)] [.ref x, .int (Int32.ofNat V.slots.size)])) := (c1.trans (st2 _ (Steps.refl _))).trans (by
    refine X2.alen hexec hx2.2.2.2.1 rfl rfl (hb hbytes d4) ?_
    refine XS.aloadN X2.here hexec rfl (hb hbytes d5) rfl rfl ?_
    exact Steps.refl _)
  obtain ⟨v4, T4, X4, E4, g4⟩ := X2.callV hexec (Cdr.law l x cd z) hown (wks W (virtW "java/lang/String" 335 "java/lang/String" Cdr.yN Cdr.yN)) rfl (by decide) (wk W Cdr.tab) (W := 1) (Nat.le_of_ble_eq_true rfl) (Nat.le_of_ble_eq_true rfl) (Nat.le_refl _) (Nat.le_refl _) (hx2.1.fc X2.warmed.alike) hx2.1.is (g := (mkF m 6 #[.val (.ref x)] [.ref x, .int (Int32.ofNat V.slots.size)])) rfl (by rw [hml]; rfl) c3 (argsL := []) (rest := [.int (Int32.ofNat V.slots.size)]) rfl rfl (by show 2 * 0 + (1 + 0) ≤ _; decide) (hb hbytes d6) (⟨rfl, hx2.2.2.1, hx.2.2.2.2.1.cd, s1.there X2.warmed.alike hh2, hz⟩)
  obtain ⟨rfl, q4⟩ := E4
  have c5 : Steps p.tables e below (s₁.setTop (entryFrame m #[.ref x] 1)) (T4.setTop (mkF m 10 #[.val (.ref x)] [.int (Int32.ofNat V.slots.size >>> (cd &&& 31))])) := Steps.trans g4 (by
    refine ishr X4.here hexec rfl (hb hbytes d9) rfl ?_
    exact Steps.refl _)
  rw [hx.2.2.2.2.1.len v31] at c5
  exact ⟨T4, some (.int (Int32.ofNat n)), _, _, _, X4, rfl, rfl, rfl, (fun h => by cases h), ⟨rfl, q4.trans hh2⟩, fun fs hl => c5.trans (X4.ireturnOut hexec hret rfl (Or.inl rfl) (hb hbytes d10) hl)⟩
theorem pays {l : Launch} {R : Room} {p : Program} {e : Env} {below : List Frame} {s : State} {sargs : Array Value} {len W : Nat} (x t : Addr) (V : Cell) (cd : Int32) (n : Nat) (f : Nat → Int32) (z : Int32) (htab : tab.before sargs s = true) (hfr : 2 ≤ R.frames) (hlo : W + 25 ≤ R.locals) :
    Back l R p e below s sargs yN len W (fun A₁ a₁ => A₁.cells + 0 ≤ R.cells ∧ A₁.slots + 0 ≤ R.slots ∧ P x t V cd n f z a₁ A₁.U) (fun A₁ _ v₁ B₁ => E n v₁ A₁.U B₁.U ∧ B₁.locs = A₁.locs ++ [] ∧ B₁.cells = A₁.cells + 0 ∧ B₁.slots = A₁.slots + 0) :=
  (law l x t V cd n f z).pays htab hfr (by omega)
end Len
namespace IsL
def yN : MethodName := ⟨"java/lang/String", "isLatin1", "()Z"⟩
abbrev yB : ByteArray := jdk_42_method_154_code
theorem d0 : decode yB 0 = .ok (.getstatic 38, 3) := by decide +kernel
theorem d3 : decode yB 3 = .ok (.ifCond (.eq) 14, 3) := by decide +kernel
theorem d6 : decode yB 6 = .ok (.aload_n 0, 1) := by decide +kernel
theorem d7 : decode yB 7 = .ok (.getfield 15, 3) := by decide +kernel
theorem d10 : decode yB 10 = .ok (.ifCond (.ne) 7, 3) := by decide +kernel
theorem d13 : decode yB 13 = .ok (.iconst 1, 1) := by decide +kernel
theorem d14 : decode yB 14 = .ok (.goto 4, 3) := by decide +kernel
theorem d17 : decode yB 17 = .ok (.iconst 0, 1) := by decide +kernel
theorem d18 : decode yB 18 = .ok (.ireturn, 1) := by decide +kernel
def site : List Cond := [.fieldLink "java/lang/String" 38 "java/lang/String" "COMPACT_STRINGS" "Z", .fieldLink "java/lang/String" 15 "java/lang/String" "coder" "B"]
def tab : Cond := tabOf yN yB 1 (some .boolean) site
def P (x : Addr) (cd z : Int32) (args : Array Value) (s : State) : Prop := args = #[.ref x] ∧ Has x "java/lang/String" "coder" "B" (.int cd) s ∧ (cd = 0 ∨ cd = 1) ∧ StaticIs s "java/lang/String" "COMPACT_STRINGS" "Z" (.int z) ∧ ¬ z = 0
def E (cd : Int32) (r : Option Value) (s u : State) : Prop := XT.PureE (some (.int (1 - cd))) r s u
theorem law (l : Launch) (x : Addr) (cd z : Int32) : Law l yN 1 0 0 0 yB 1 (some .boolean) site (P x cd z) (E cd) [] 0 0 := by
  refine Law.of_walk (plainFor_of_name (by decide +kernel)) (by decide +kernel) (by decide +kernel) (by decide) (fun _ _ h => by rw [h.1]; rfl) (fun _ U U' hal hh h => ⟨h.1, h.2.1.mv hal hh, h.2.2.1, h.2.2.2.1.there hal hh, h.2.2.2.2⟩) (fun r U U' V V' h1 hal h2 h => XT.PureE.mv r U U' V V' h1 hal h2 h) ?_
  intro p e s m args below meth c s₁ X0 hexec hbytes hml hret hlk hnm hown hh0 W hP
  obtain ⟨rfl, hx, hc, s1, hz⟩ := hP
  have c1 : Steps p.tables e below (s₁.setTop (entryFrame m #[.ref x] 1)) (s₁.setTop (mkF m 0 #[.val (.ref x)] [])) := entry rfl
  obtain ⟨T2, X2, q2, st2⟩ := X0.sget hexec hown (wk W (.fieldLink "java/lang/String" 38 "java/lang/String" "COMPACT_STRINGS" "Z")) s1 (fun _ _ h => by rw [hh0]; exact h) (g := (mkF m 0 #[.val (.ref x)] [])) rfl (hb hbytes d0)
  have hh2 := q2.trans hh0
  have c3 : Steps p.tables e below (s₁.setTop (entryFrame m #[.ref x] 1)) (T2.setTop (mkF m 7 #[.val (.ref x)] [.ref x])) := (c1.trans (st2 _ (Steps.refl _))).trans (by
    refine XS.ifNo X2.here hexec rfl (hb hbytes d3) rfl (i0_eq_f hz) ?_
    refine XS.aloadN X2.here hexec rfl (hb hbytes d6) rfl rfl ?_
    exact Steps.refl _)
  obtain ⟨T4, X4, q4, st4⟩ := X2.hget hexec hown (wk W (.fieldLink "java/lang/String" 15 "java/lang/String" "coder" "B")) (hx.mv X2.warmed.alike hh2) (g := (mkF m 7 #[.val (.ref x)] [.ref x])) rfl (rest := []) rfl (hb hbytes d7)
  have c5 : Steps p.tables e below (s₁.setTop (entryFrame m #[.ref x] 1)) (T4.setTop (mkF m 10 #[.val (.ref x)] [.int cd])) := c3.trans (st4 _ (Steps.refl _))
  have c6 : Steps p.tables e below (s₁.setTop (entryFrame m #[.ref x] 1)) (T4.setTop (mkF m 18 #[.val (.ref x)] [.int (1 - cd)])) := by
    rcases hc with rfl | rfl
    · exact c5.trans (by
        refine XS.ifNo X4.here hexec rfl (hb hbytes d10) rfl (i0_ne_f rfl) ?_
        refine iconstV X4.here hexec rfl 1 (hb hbytes d13) (by decide) ?_
        refine XS.goto X4.here hexec rfl (pc0 := 14) rfl (hb hbytes d14) (by decide) rfl ?_
        exact Steps.refl _)
    · exact c5.trans (by
        refine XS.ifYes X4.here hexec rfl (pc0 := 10) rfl (hb hbytes d10) rfl (i0_ne_t (by decide)) (by decide) rfl ?_
        refine iconstV X4.here hexec rfl 0 (hb hbytes d17) (by decide) ?_
        exact Steps.refl _)
  exact ⟨T4, some (.int (1 - cd)), _, _, _, X4, rfl, rfl, rfl, (fun h => by cases h), ⟨rfl, q4.trans hh2⟩, fun fs hl => c6.trans (X4.ireturnOut hexec hret (by rcases hc with rfl | rfl <;> rfl) (Or.inr (Or.inl rfl)) (hb hbytes d18) hl)⟩
end IsL
namespace LChA
def yN : MethodName := ⟨"java/lang/StringLatin1", "charAt", "([BI)C"⟩
abbrev yB : ByteArray := jdk_43_method_2_code
theorem d0 : decode yB 0 = .ok (.iload_n 1, 1) := by decide +kernel
theorem d1 : decode yB 1 = .ok (.aload_n 0, 1) := by decide +kernel
theorem d2 : decode yB 2 = .ok (.arraylength, 1) := by decide +kernel
theorem d3 : decode yB 3 = .ok (.invokestatic 9, 3) := by decide +kernel
theorem d6 : decode yB 6 = .ok (.aload_n 0, 1) := by decide +kernel
theorem d7 : decode yB 7 = .ok (.iload_n 1, 1) := by decide +kernel
theorem d8 : decode yB 8 = .ok (.baload, 1) := by decide +kernel
theorem d9 : decode yB 9 = .ok (.sipush 255, 3) := by decide +kernel
theorem d12 : decode yB 12 = .ok (.iand, 1) := by decide +kernel
theorem d13 : decode yB 13 = .ok (.i2c, 1) := by decide +kernel
theorem d14 : decode yB 14 = .ok (.ireturn, 1) := by decide +kernel
def site : List Cond := [JO.Str_checkIndex.tab] ++ staticW "java/lang/StringLatin1" 9 JO.Str_checkIndex.yN
def tab : Cond := tabOf yN yB 2 (some .char) site
def P (t : Addr) (V : Cell) (i : Nat) (u : Int32) (fm : Value) (args : Array Value) (s : State) : Prop := args = #[.ref t, .int (Int32.ofNat i)] ∧ XT.Arr .byte t V s ∧ V.slots[i]? = some (.int u) ∧ (StaticIs s "jdk/internal/util/Preconditions" "SIOOBE_FORMATTER" "Ljava/util/function/BiFunction;" fm ∧ fm.isRef = true)
def E (u : Int32) (r : Option Value) (s w : State) : Prop := XT.PureE (some (.int (chr8 u))) r s w
theorem law (l : Launch) (t : Addr) (V : Cell) (i : Nat) (u : Int32) (fm : Value) : Law l yN 2 2 2 27 yB 2 (some .char) site (P t V i u fm) (E u) [] 0 0 := by
  refine Law.of_walk (plainFor_of_name (by decide +kernel)) (by decide +kernel) (by decide +kernel) (by decide) (fun _ _ h => by rw [h.1]; rfl) (fun _ U U' hal hh h => ⟨h.1, h.2.1.mv hal hh, h.2.2.1, h.2.2.2.1.there hal hh, h.2.2.2.2⟩) (fun r U U' V V' h1 hal h2 h => XT.PureE.mv r U U' V V' h1 hal h2 h) ?_
  intro p e s m args below meth c s₁ X0 hexec hbytes hml hret hlk hnm hown hh0 W hP
  obtain ⟨rfl, hV, hu, s1, rf⟩ := hP
  have v31 := hV.2.2.2
  have hi : i < V.slots.size := (Array.getElem?_eq_some_iff.mp hu).1
  have c1 : Steps p.tables e below (s₁.setTop (entryFrame m #[.ref t, .int (Int32.ofNat i)] 2)) (s₁.setTop (mkF m 0 #[.val (.ref t), .val (.int (Int32.ofNat i))] [])) := entry rfl
  have c2 : Steps p.tables e below (s₁.setTop (entryFrame m #[.ref t, .int (Int32.ofNat i)] 2)) (s₁.setTop (mkF m 3 #[.val (.ref t), .val (.int (Int32.ofNat i))] [.int (Int32.ofNat V.slots.size), .int (Int32.ofNat i)])) := c1.trans (by
    refine XS.iloadN X0.here hexec rfl (hb hbytes d0) rfl ?_
    refine XS.aloadN X0.here hexec rfl (hb hbytes d1) rfl rfl ?_
    refine X0.alen hexec (hV.mv X0.warmed.alike hh0) rfl rfl (hb hbytes d2) ?_
    exact Steps.refl _)
  obtain ⟨v3, T3, X3, E3, g3⟩ := X0.callS hexec (JO.Str_checkIndex.law l (Int32.ofNat i) (Int32.ofNat V.slots.size) fm) hown (wks W (staticW "java/lang/StringLatin1" 9 JO.Str_checkIndex.yN)) (wk W JO.Str_checkIndex.tab) (W := 0) (Nat.le_of_ble_eq_true rfl) (Nat.le_of_ble_eq_true rfl) (Nat.le_refl _) (Nat.le_refl _) (g := (mkF m 3 #[.val (.ref t), .val (.int (Int32.ofNat i))] [.int (Int32.ofNat V.slots.size), .int (Int32.ofNat i)])) rfl (by rw [hml]; rfl) c2 (argsL := [.int (Int32.ofNat i), .int (Int32.ofNat V.slots.size)]) (rest := []) rfl rfl (by show 2 * 0 + 0 ≤ _; decide) (hb hbytes d3) (⟨rfl, rf, s1.there X0.warmed.alike hh0, Int32.ofNat_not_neg (by omega), lt32 v31 hi⟩)
  obtain ⟨rfl, q3⟩ := E3
  have hh3 := q3.trans hh0
  have c4 : Steps p.tables e below (s₁.setTop (entryFrame m #[.ref t, .int (Int32.ofNat i)] 2)) (T3.setTop (mkF m 14 #[.val (.ref t), .val (.int (Int32.ofNat i))] [.int (chr8 u)])) := Steps.trans g3 (by
    refine XS.aloadN X3.here hexec rfl (hb hbytes d6) rfl rfl ?_
    refine XS.iloadN X3.here hexec rfl (hb hbytes d7) rfl ?_
    refine X3.aget hexec (hV.mv X3.warmed.alike hh3) rfl hu rfl rfl (hb hbytes d8) ?_
    refine sipushV X3.here hexec rfl 255 (hb hbytes d9) (by decide) ?_
    refine XS.iand X3.here hexec rfl (hb hbytes d12) rfl ?_
    refine i2c X3.here hexec rfl (hb hbytes d13) rfl ?_
    exact Steps.refl _)
  exact ⟨T3, some (.int (chr8 u)), _, _, _, X3, rfl, rfl, rfl, (fun h => by cases h), ⟨rfl, hh3⟩, fun fs hl => c4.trans (X3.ireturnOut hexec hret (narrow_c _) (Or.inr (Or.inr (Or.inr (Or.inl rfl)))) (hb hbytes d14) hl)⟩
end LChA
end StrChars
namespace StrChars.Road
open Jvm Sem ClassFile Op Lib Jvm.Stand Jvm.Free Jvm.Free.XT
open Jvm.Lib.Cold (StaticIs)
theorem consq {a : Array Value} {s : State} {c : Jvm.Cond} {L : List Jvm.Cond} (h0 : c.before a s = true) (h : ∀ w ∈ L, w.before a s = true) : ∀ w ∈ c :: L, w.before a s = true := fun w hw => (List.mem_cons.mp hw).elim (fun e => e ▸ h0) (h w)
/-- the words of String.length(), either coding -/
abbrev wordsLen : List Jvm.Cond := [.code Len.yN Len.yB 1 (some .int), .initialized ST, .fieldLink ST 9 ST "value" "[B", .fieldLink ST 38 ST "COMPACT_STRINGS" "Z", .fieldLink ST 15 ST "coder" "B", .code Cdr.yN Cdr.yB 1 (some .byte), .methodLink ST 335 Cdr.yN, .declares Cdr.yN, .selects ST Cdr.yN Cdr.yN, .instanceMethod Cdr.yN]
theorem tabLen_of {a : Array Value} {s : State} (h : ∀ w ∈ wordsLen, w.before a s = true) : Len.tab.before a s = true := by
  have hc : Cdr.tab.before a s = true := unparts (wk h (.code Cdr.yN Cdr.yB 1 (some .byte))) (wks h (.initialized Cdr.yN.cls :: Cdr.site))
  have q := consq hc h
  exact unparts (wk q (.code Len.yN Len.yB 1 (some .int))) (wks q (.initialized Len.yN.cls :: Len.site))
theorem movedLen {Z s : State} {a0 args : Array Value} (hZ : Z.Warmed39 s.vm) (hw : ∀ d ∈ wordsLen, d.before a0 Z = true) : ∀ d ∈ wordsLen, d.before args s = true := fun d hd => by
  have q := hw d hd
  have t : ∀ d ∈ wordsLen, d = .arrayClass .byte ∨ (d.onTables && d.keepsFace) = true := by decide +kernel
  rcases t d hd with rfl | t
  · exact RoadKit.mvA hZ q
  · exact RoadKit.mv hZ q t
/-- the bytes of the chars cs, low before high -/
def wideBytes : List Int32 → List Value
  | [] => []
  | c :: cs => .int (lo8 c) :: .int (hi8 c) :: wideBytes cs
theorem wide_lo (d : Value) : ∀ (cs : List Int32) (j : Nat), j < cs.length → (wideBytes cs).getD (2 * j) d = .int (lo8 (cs.getD j 0))
  | [], j, h => absurd h (Nat.not_lt_zero j)
  | c :: cs, 0, _ => rfl
  | c :: cs, j + 1, h => by
    have q := wide_lo d cs j (by simpa using h)
    rw [show 2 * (j + 1) = 2 * j + 1 + 1 from by omega]
    simpa [wideBytes] using q
theorem wide_hi (d : Value) : ∀ (cs : List Int32) (j : Nat), j < cs.length → (wideBytes cs).getD (2 * j + 1) d = .int (hi8 (cs.getD j 0))
  | [], j, h => absurd h (Nat.not_lt_zero j)
  | c :: cs, 0, _ => rfl
  | c :: cs, j + 1, h => by
    have q := wide_hi d cs j (by simpa using h)
    rw [show 2 * (j + 1) + 1 = 2 * j + 1 + 1 + 1 from by omega]
    simpa [wideBytes] using q
theorem low_at (d : Value) (cs : List Int32) (j : Nat) (h : j < cs.length) : (cs.map fun c => Value.int (lo8 c)).getD j d = .int (lo8 (cs.getD j 0)) := by
  simp [List.getD_eq_getElem?_getD, h]
/-- an array of N2 bytes vs codes the chars cs by the coder cd -/
def CodA (cs : List Int32) (cd N2 : Int32) (vs : List Value) : Prop := (cd = 0 ∧ N2 = Int32.ofNat cs.length ∧ vs = (cs.map fun c => Value.int (lo8 c)) ∧ ∀ c ∈ cs, ¬ 255 < c) ∨ (cd = 1 ∧ N2 = Int32.ofNat (2 * cs.length) ∧ vs = wideBytes cs ∧ ∃ c ∈ cs, 255 < c)
theorem CodA.cod {cs : List Int32} {cd N2 : Int32} {vs : List Value} {V : Cell} (h : CodA cs cd N2 vs) (hn : 2 * cs.length < 2 ^ 31) (hs : V.slots.size = N2.toNatClampNeg) (hv : RoadKit.Has V vs (.int 0)) : Cod cd cs.length (fun j => cs.getD j 0) V := by
  rcases h with ⟨rfl, rfl, rfl, h⟩ | ⟨rfl, rfl, rfl, c, hc, hw⟩
  · rw [n32 (by omega)] at hs
    exact Or.inl ⟨rfl, hs, fun j hj => ⟨by rw [hv j (by omega), low_at _ _ _ hj], by
      have e : cs.getD j 0 = cs[j] := by simp [List.getD_eq_getElem?_getD, hj]
      show ¬ 255 < cs.getD j 0
      rw [e]; exact h _ (List.getElem_mem _)⟩⟩
  · rw [n32 (by omega)] at hs
    obtain ⟨j, hj, rfl⟩ := List.getElem_of_mem hc
    exact Or.inr ⟨rfl, hs, fun j hj => ⟨by rw [hv _ (by omega), wide_lo _ _ _ hj], by rw [hv _ (by omega), wide_hi _ _ _ hj]⟩, j, hj, by
      have e : cs.getD j 0 = cs[j] := by simp [List.getD_eq_getElem?_getD, hj]
      show 255 < cs.getD j 0
      rw [e]; exact hw⟩
/-- an object of exactly java/lang/String, its two fields found: as the laws ask it -/
theorem strObj {Z U : State} {a0 : Array Value} {kI : Nat} (wi : (Jvm.Cond.instantiable ST kI).before a0 Z = true) (al : Z.vm.Alike U.vm) {x : Addr} {v0 c0 : Value} (E : RoadKit.Exa Z U.heap x ST) (V : RoadKit.Fld Z U.heap x ST "value" "[B" v0) (C : RoadKit.Fld Z U.heap x ST "coder" "B" c0) :
    ∃ (D : Cell) (fV fC : Field), Blank ST x D U ∧ Found ST "value" "[B" fV U ∧ Found ST "coder" "B" fC U ∧ D.slots[fV.slot]? = some v0 ∧ D.slots[fC.slot]? = some c0 ∧ RoadKit.slotOf Z ST "value" "[B" = fV.slot ∧ RoadKit.slotOf Z ST "coder" "B" = fC.slot := by
  obtain ⟨D, cfV, kV, iV, fV, hD, gV, stV, knV, obV, asV, slV⟩ := V
  obtain ⟨D', cfC, kC, iC, fC, hD', gC, stC, -, -, asC, slC⟩ := C
  cases hD.symm.trans hD'
  obtain ⟨D2, kD, e1, e2, e3, e4, e5⟩ := E
  cases hD.symm.trans e1
  obtain ⟨c2, k2, i1, i2, i3, -⟩ := Cond.instantiable_spec wi
  cases e2.symm.trans i1
  cases e3.symm.trans i2
  obtain ⟨kU, u1, u2⟩ := al.2.2 _ _ e3
  exact ⟨D, fV, fC, ⟨hD, ⟨knV, fun q hq => by rw [hq] at obV; cases obV⟩, by rw [al.findClass]; exact e2, kU, u1, by rw [u2]; exact i3, by rw [u2]; exact e5 i3⟩, ⟨SBG.found_only al ⟨cfV, kV, iV, gV⟩, stV⟩, ⟨SBG.found_only al ⟨cfC, kC, iC, gC⟩, stC⟩, slV, slC, by simp [RoadKit.slotOf, gV], by simp [RoadKit.slotOf, gC]⟩
theorem sta_is {Z U : State} (al : Z.vm.Alike U.vm) {C n d : String} {v : Value} (S : RoadKit.Sta Z U.heap C n d v) : StaticIs U C n d v := by
  obtain ⟨cfS, iS, kS, fS, st, cS, t1, t2, t3, t4, t5, t6, t7⟩ := S
  exact StaticIs.there (s := { Z with heap := U.heap }) ⟨cfS, iS, kS, fS, st, cS, t1, t2, t3, t4, t5, (fun q => by rw [q] at t6; cases t6), t7⟩ al rfl
/-- **length() OF SUCH A STRING** -/
theorem lenW {p : Program} {l : Launch} {e : Env} {R : Room} {s : State} {args : Array Value} {below : List Frame} {len W : Nat} {Z : State} {a0 : Array Value} {h : Heap} (hZ : Z.Warmed39 s.vm) (hw : ∀ d ∈ wordsLen, d.before a0 Z = true) {kI : Nat} (wi : (Jvm.Cond.instantiable ST kI).before a0 Z = true)
    {x t : Addr} {kb : ClassId} {cs : List Int32} {cd N2 z : Int32} {vs : List Value} (E : RoadKit.Exa Z h x ST) (V : RoadKit.Fld Z h x ST "value" "[B" (.ref t)) (C : RoadKit.Fld Z h x ST "coder" "B" (.int cd)) (K : RoadKit.Arv Z h t kb .byte N2 vs (.int 0)) (hc : CodA cs cd N2 vs) (hb : ∀ c ∈ cs, ¬ c < 0 ∧ ¬ (65535 : Int32) < c)
    (S : RoadKit.Sta Z h ST "COMPACT_STRINGS" "Z" (.int z)) (hz : ¬ z = 0) (l2 : cs.length ≤ 4000) (hfr : 2 ≤ R.frames) (hlo : W + 25 ≤ R.locals) :
    Back l R p e below s args (⟨"java/lang/String", "length", "()I"⟩ : MethodName) len W (fun P a => a = #[.ref x] ∧ P.U.heap = h ∧ P.cells + 0 ≤ R.cells ∧ P.slots + 0 ≤ R.slots)
      (fun P _ v B => ∃ L, (v = some (.int (Int32.ofNat cs.length)) ∧ L = [] ∧ B.U.heap = h) ∧ B.locs = P.locs ++ L ∧ B.cells = P.cells + 0 ∧ B.slots = P.slots + 0) := by
  obtain ⟨A, K1, K2, K3, K4, K5, K6⟩ := K
  have hcod := hc.cod (by omega) K3 K5
  intro m meth c P g ig mk a X hg hsize hdg hW hn hp'
  obtain ⟨rfl, rfl, r1, r2⟩ := hp'
  have al : Z.vm.Alike P.U.vm := hZ.alike.trans X.warmed.alike
  obtain ⟨D, fV, fC, hB, F1, F2, g1, g2, -, -⟩ := strObj wi al E V C
  have hx : Txt x t A cd cs.length (fun j => cs.getD j 0) P.U := ⟨⟨_, hB.2.2.1, D, hB.1, rfl, by cases q : D.vm <;> first | rfl | exact absurd q (hB.2.1.2 _)⟩, Has.of hB F1 g1, Has.of hB F2 g2, ⟨K1.1, State.isArrayOf_alike al K1.2.1, K1.2.2, by rcases hcod with ⟨-, q, -⟩ | ⟨-, q, -⟩ <;> omega⟩, hcod, fun j hj => by
    have e : cs.getD j 0 = cs[j] := by simp [List.getD_eq_getElem?_getD, hj]
    show ¬ cs.getD j 0 < 0 ∧ ¬ 65535 < cs.getD j 0
    rw [e]; exact hb _ (List.getElem_mem _)⟩
  obtain ⟨v, B, X', ⟨⟨hv, hh⟩, hl, hk, hs⟩, st⟩ := Len.pays x t A cd cs.length (fun j => cs.getD j 0) z (tabLen_of (movedLen hZ hw)) hfr hlo m meth c P g ig mk _ X hg hsize hdg hW hn ⟨r1, r2, rfl, hx, sta_is al S, hz⟩
  exact ⟨v, B, X', ⟨[], ⟨hv, rfl, hh⟩, hl, hk, hs⟩, st⟩
end StrChars.Road
namespace StrChars.Road
open Jvm Sem ClassFile Op Lib Jvm.Stand Jvm.Free Jvm.Free.XT
open Jvm.Lib.Cold (StaticIs)
/-- the road's facts of a String, as the laws ask it -/
theorem txt_of {Z U : State} {a0 : Array Value} {kI : Nat} (wi : (Jvm.Cond.instantiable ST kI).before a0 Z = true) (al : Z.vm.Alike U.vm) {x t : Addr} {kb : ClassId} {cs : List Int32} {cd N2 : Int32} {vs : List Value} (E : RoadKit.Exa Z U.heap x ST) (V : RoadKit.Fld Z U.heap x ST "value" "[B" (.ref t)) (C : RoadKit.Fld Z U.heap x ST "coder" "B" (.int cd)) (K : RoadKit.Arv Z U.heap t kb .byte N2 vs (.int 0)) (hc : CodA cs cd N2 vs) (hb : ∀ c ∈ cs, ¬ c < 0 ∧ ¬ (65535 : Int32) < c) (l2 : cs.length ≤ 4000) :
    ∃ A, Txt x t A cd cs.length (fun j => cs.getD j 0) U := by
  obtain ⟨A, K1, K2, K3, K4, K5, K6⟩ := K
  have hcod := hc.cod (by omega) K3 K5
  obtain ⟨D, fV, fC, hB, F1, F2, g1, g2, -, -⟩ := strObj wi al E V C
  exact ⟨A, ⟨_, hB.2.2.1, D, hB.1, rfl, by cases q : D.vm <;> first | rfl | exact absurd q (hB.2.1.2 _)⟩, Has.of hB F1 g1, Has.of hB F2 g2, ⟨K1.1, State.isArrayOf_alike al K1.2.1, K1.2.2, by rcases hcod with ⟨-, q, -⟩ | ⟨-, q, -⟩ <;> omega⟩, hcod, fun j hj => by
    have e : cs.getD j 0 = cs[j] := by simp [List.getD_eq_getElem?_getD, hj]
    show ¬ cs.getD j 0 < 0 ∧ ¬ 65535 < cs.getD j 0
    rw [e]; exact hb _ (List.getElem_mem _)⟩
end StrChars.Road
namespace StrChars
open Jvm Sem ClassFile Op Lib Jvm.Stand Jvm.Free.XT Jvm.Free.ALB Jvm.Free.JM Jvm.Free
open Jvm.Lib.Cold (StaticIs)
namespace ChN
def yN : MethodName := ⟨"java/lang/String", "charAt", "(I)C"⟩
abbrev yB : ByteArray := jdk_42_method_56_code
theorem d0 : decode yB 0 = .ok (.aload_n 0, 1) := by decide +kernel
theorem d1 : decode yB 1 = .ok (.invokevirtual 492, 3) := by decide +kernel
theorem d4 : decode yB 4 = .ok (.ifCond (.eq) 12, 3) := by decide +kernel
theorem d7 : decode yB 7 = .ok (.aload_n 0, 1) := by decide +kernel
theorem d8 : decode yB 8 = .ok (.getfield 9, 3) := by decide +kernel
theorem d11 : decode yB 11 = .ok (.iload_n 1, 1) := by decide +kernel
theorem d12 : decode yB 12 = .ok (.invokestatic 495, 3) := by decide +kernel
theorem d15 : decode yB 15 = .ok (.ireturn, 1) := by decide +kernel
def site : List Cond := [.fieldLink "java/lang/String" 9 "java/lang/String" "value" "[B", IsL.tab, LChA.tab] ++ virtW "java/lang/String" 492 "java/lang/String" IsL.yN IsL.yN ++ staticW "java/lang/String" 495 LChA.yN
def tab : Cond := tabOf yN yB 2 (some .char) site
def P (x t : Addr) (V : Cell) (n : Nat) (f : Nat → Int32) (z : Int32) (fm : Value) (i : Nat) (args : Array Value) (s : State) : Prop := args = #[.ref x, .int (Int32.ofNat i)] ∧ Txt x t V 0 n f s ∧ i < n ∧ StaticIs s "java/lang/String" "COMPACT_STRINGS" "Z" (.int z) ∧ ¬ z = 0 ∧ StaticIs s "jdk/internal/util/Preconditions" "SIOOBE_FORMATTER" "Ljava/util/function/BiFunction;" fm ∧ fm.isRef = true
def E (f : Nat → Int32) (i : Nat) (r : Option Value) (s u : State) : Prop := XT.PureE (some (.int (f i))) r s u
/-- charAt(i) of a Latin-1 String of n chars, i < n: f i -/
theorem law (l : Launch) (x t : Addr) (V : Cell) (n : Nat) (f : Nat → Int32) (z : Int32) (fm : Value) (i : Nat) : Law l yN 2 1 3 40 yB 2 (some .char) site (P x t V n f z fm i) (E f i) [] 0 0 := by
  refine Law.of_walk (plainFor_of_name (by decide +kernel)) (by decide +kernel) (by decide +kernel) (by decide) (fun _ _ h => by rw [h.1]; rfl) (fun _ U U' hal hh h => ⟨h.1, h.2.1.mv hal hh, h.2.2.1, h.2.2.2.1.there hal hh, h.2.2.2.2.1, h.2.2.2.2.2.1.there hal hh, h.2.2.2.2.2.2⟩) (fun r U U' V V' h1 hal h2 h => XT.PureE.mv r U U' V V' h1 hal h2 h) ?_
  intro p e s m args below meth c s₁ X0 hexec hbytes hml hret hlk hnm hown hh0 W hP
  obtain ⟨rfl, hx, hi, s1, hz, s3, rf⟩ := hP
  have v31 := hx.2.2.2.1.2.2.2
  have hr := hx.2.2.2.2.2 i hi
  have hx0 := hx.mv X0.warmed.alike hh0
  have c1 : Steps p.tables e below (s₁.setTop (entryFrame m #[.ref x, .int (Int32.ofNat i)] 2)) (s₁.setTop (mkF m 1 #[.val (.ref x), .val (.int (Int32.ofNat i))] [.ref x])) := Steps.trans (entry rfl) (by
    show Steps p.tables e below (s₁.setTop (mkF m 0 #[.val (.ref x), .val (.int (Int32.ofNat i))] [])) _
    refine XS.aloadN X0.here hexec rfl (hb hbytes d0) rfl rfl ?_
    exact Steps.refl _)
  obtain ⟨v2, T2, X2, E2, g2⟩ := X0.callV hexec (IsL.law l x 0 z) hown (wks W (virtW "java/lang/String" 492 "java/lang/String" IsL.yN IsL.yN)) rfl (by decide) (wk W IsL.tab) (W := 0) (Nat.le_of_ble_eq_true rfl) (Nat.le_of_ble_eq_true rfl) (Nat.le_refl _) (Nat.le_refl _) (hx0.1.fc X0.warmed.alike) hx0.1.is (g := (mkF m 1 #[.val (.ref x), .val (.int (Int32.ofNat i))] [.ref x])) rfl (by rw [hml]; rfl) c1 (argsL := []) (rest := []) rfl rfl (by show 2 * 0 + 0 ≤ _; decide) (hb hbytes d1) (⟨rfl, hx0.2.2.1, hx.2.2.2.2.1.cd, s1.there X0.warmed.alike hh0, hz⟩)
  obtain ⟨rfl, q2⟩ := E2
  have hh2 := q2.trans hh0
  have hx2 := hx.mv X2.warmed.alike hh2
  obtain ⟨-, k1, k2⟩ | ⟨k0, -⟩ := hx.2.2.2.2.1
  · have c3 : Steps p.tables e below (s₁.setTop (entryFrame m #[.ref x, .int (Int32.ofNat i)] 2)) (T2.setTop (mkF m 8 #[.val (.ref x), .val (.int (Int32.ofNat i))] [.ref x])) := Steps.trans g2 (by
      refine XS.ifNo X2.here hexec rfl (hb hbytes d4) rfl (i0_eq_f (by decide)) ?_
      refine XS.aloadN X2.here hexec rfl (hb hbytes d7) rfl rfl ?_
      exact Steps.refl _)
    obtain ⟨T4, X4, q4, st4⟩ := X2.hget hexec hown (wk W (.fieldLink "java/lang/String" 9 "java/lang/String" "value" "[B")) hx2.2.1 (g := (mkF m 8 #[.val (.ref x), .val (.int (Int32.ofNat i))] [.ref x])) rfl (rest := []) rfl (hb hbytes d8)
    have hh4 := q4.trans hh2
    have c5 : Steps p.tables e below (s₁.setTop (entryFrame m #[.ref x, .int (Int32.ofNat i)] 2)) (T4.setTop (mkF m 12 #[.val (.ref x), .val (.int (Int32.ofNat i))] [.int (Int32.ofNat i), .ref t])) := (c3.trans (st4 _ (Steps.refl _))).trans (by
      refine XS.iloadN X4.here hexec rfl (hb hbytes d11) rfl ?_
      exact Steps.refl _)
    obtain ⟨v6, T6, X6, E6, g6⟩ := X4.callS hexec (LChA.law l t V i (lo8 (f i)) fm) hown (wks W (staticW "java/lang/String" 495 LChA.yN)) (wk W LChA.tab) (W := 0) (Nat.le_of_ble_eq_true rfl) (Nat.le_of_ble_eq_true rfl) (Nat.le_refl _) (Nat.le_refl _) (g := (mkF m 12 #[.val (.ref x), .val (.int (Int32.ofNat i))] [.int (Int32.ofNat i), .ref t])) rfl (by rw [hml]; rfl) c5 (argsL := [.ref t, .int (Int32.ofNat i)]) (rest := []) rfl rfl (by show 2 * 0 + 0 ≤ _; decide) (hb hbytes d12) (⟨rfl, hx.2.2.2.1.mv X4.warmed.alike hh4, (k2 i hi).1, s3.there X4.warmed.alike hh4, rf⟩)
    obtain ⟨rfl, q6⟩ := E6
    rw [chr8_lo8 hr.1 (k2 i hi).2] at g6
    exact ⟨T6, some (.int (f i)), _, _, _, X6, rfl, rfl, rfl, (fun h => by cases h), ⟨rfl, q6.trans hh4⟩, fun fs hl => Steps.trans g6 (X6.ireturnOut hexec hret (narrow_ch hr.1 hr.2) (Or.inr (Or.inr (Or.inr (Or.inl rfl)))) (hb hbytes d15) hl)⟩
  · exact absurd k0 (by decide)
theorem pays {l : Launch} {R : Room} {p : Program} {e : Env} {below : List Frame} {s : State} {sargs : Array Value} {len W : Nat} (x t : Addr) (V : Cell) (n : Nat) (f : Nat → Int32) (z : Int32) (fm : Value) (i : Nat) (htab : tab.before sargs s = true) (hfr : 4 ≤ R.frames) (hlo : W + 53 ≤ R.locals) :
    Back l R p e below s sargs yN len W (fun A₁ a₁ => A₁.cells + 0 ≤ R.cells ∧ A₁.slots + 0 ≤ R.slots ∧ P x t V n f z fm i a₁ A₁.U) (fun A₁ _ v₁ B₁ => E f i v₁ A₁.U B₁.U ∧ B₁.locs = A₁.locs ++ [] ∧ B₁.cells = A₁.cells + 0 ∧ B₁.slots = A₁.slots + 0) :=
  (law l x t V n f z fm i).pays htab hfr (by omega)
end ChN
end StrChars
namespace StrChars.Road
open Jvm Sem ClassFile Op Lib Jvm.Stand Jvm.Free Jvm.Free.XT
open Jvm.Lib.Cold (StaticIs)
/-- the words of String.charAt(int), the Latin-1 road alone -/
abbrev wordsChN : List Jvm.Cond := [.code ChN.yN ChN.yB 2 (some .char), .initialized ST, .fieldLink ST 9 ST "value" "[B", .fieldLink ST 38 ST "COMPACT_STRINGS" "Z", .fieldLink ST 15 ST "coder" "B", .code IsL.yN IsL.yB 1 (some .boolean), .methodLink ST 492 IsL.yN, .declares IsL.yN, .selects ST IsL.yN IsL.yN, .instanceMethod IsL.yN,
  .methodLink ST 495 LChA.yN, .static LChA.yN, .code LChA.yN LChA.yB 2 (some .char), .initialized "java/lang/StringLatin1", .methodLink "java/lang/StringLatin1" 9 JO.Str_checkIndex.yN, .static JO.Str_checkIndex.yN, .code JO.Str_checkIndex.yN JO.Str_checkIndex.yB 2 none,
  .fieldLink ST 1053 "jdk/internal/util/Preconditions" "SIOOBE_FORMATTER" "Ljava/util/function/BiFunction;", .methodLink ST 1059 JC.PreCheck.yN, .static JC.PreCheck.yN, .code JC.PreCheck.yN JC.PreCheck.yB 3 (some .int), .initialized "jdk/internal/util/Preconditions"]
theorem tabChN_of {a : Array Value} {s : State} (h : ∀ w ∈ wordsChN, w.before a s = true) : ChN.tab.before a s = true := by
  have hp : JC.PreCheck.tab.before a s = true := unparts (wk h (.code JC.PreCheck.yN JC.PreCheck.yB 3 (some .int))) (wks h (.initialized JC.PreCheck.yN.cls :: JC.PreCheck.site))
  have qk := consq hp h
  have hk : JO.Str_checkIndex.tab.before a s = true := unparts (wk qk (.code JO.Str_checkIndex.yN JO.Str_checkIndex.yB 2 none)) (wks qk (.initialized JO.Str_checkIndex.yN.cls :: JO.Str_checkIndex.site))
  have ql := consq hk h
  have hl : LChA.tab.before a s = true := unparts (wk ql (.code LChA.yN LChA.yB 2 (some .char))) (wks ql (.initialized LChA.yN.cls :: LChA.site))
  have hi : IsL.tab.before a s = true := unparts (wk h (.code IsL.yN IsL.yB 1 (some .boolean))) (wks h (.initialized IsL.yN.cls :: IsL.site))
  have q := consq hi (consq hl h)
  exact unparts (wk q (.code ChN.yN ChN.yB 2 (some .char))) (wks q (.initialized ChN.yN.cls :: ChN.site))
theorem movedChN {Z s : State} {a0 args : Array Value} (hZ : Z.Warmed39 s.vm) (hw : ∀ d ∈ wordsChN, d.before a0 Z = true) : ∀ d ∈ wordsChN, d.before args s = true := fun d hd => by
  have t : ∀ d ∈ wordsChN, (d.onTables && d.keepsFace) = true := by decide +kernel
  exact RoadKit.mv hZ (hw d hd) (t d hd)
/-- **charAt(i) OF A LATIN-1 STRING**, i < n: the char -/
theorem chN {p : Program} {l : Launch} {e : Env} {R : Room} {s : State} {args : Array Value} {below : List Frame} {len W : Nat} {Z : State} {a0 : Array Value} {h : Heap} (hZ : Z.Warmed39 s.vm) (hw : ∀ d ∈ wordsChN, d.before a0 Z = true) {kI : Nat} (wi : (Jvm.Cond.instantiable ST kI).before a0 Z = true)
    {x t : Addr} {kb : ClassId} {cs : List Int32} {N2 z : Int32} {vs : List Value} {fm : Value} {i : Nat} {j : Int32} (E : RoadKit.Exa Z h x ST) (V : RoadKit.Fld Z h x ST "value" "[B" (.ref t)) (C : RoadKit.Fld Z h x ST "coder" "B" (.int 0)) (K : RoadKit.Arv Z h t kb .byte N2 vs (.int 0)) (hc : CodA cs 0 N2 vs) (hb : ∀ c ∈ cs, ¬ c < 0 ∧ ¬ (65535 : Int32) < c)
    (S : RoadKit.Sta Z h ST "COMPACT_STRINGS" "Z" (.int z)) (hz : ¬ z = 0) (F : RoadKit.Sta Z h "jdk/internal/util/Preconditions" "SIOOBE_FORMATTER" "Ljava/util/function/BiFunction;" fm) (rf : fm.isRef = true) (l2 : cs.length ≤ 4000) (hi : i < cs.length) (hj : j = Int32.ofNat i) (hfr : 4 ≤ R.frames) (hlo : W + 53 ≤ R.locals) :
    Back l R p e below s args (⟨"java/lang/String", "charAt", "(I)C"⟩ : MethodName) len W (fun P a => a = #[.ref x, .int j] ∧ P.U.heap = h ∧ P.cells + 0 ≤ R.cells ∧ P.slots + 0 ≤ R.slots)
      (fun P _ v B => ∃ L, (v = some (.int (cs.getD i 0)) ∧ L = [] ∧ B.U.heap = h) ∧ B.locs = P.locs ++ L ∧ B.cells = P.cells + 0 ∧ B.slots = P.slots + 0) := by
  subst hj
  intro m meth c P g ig mk a X hg hsize hdg hW hn hp'
  obtain ⟨rfl, rfl, r1, r2⟩ := hp'
  have al : Z.vm.Alike P.U.vm := hZ.alike.trans X.warmed.alike
  obtain ⟨A, hx⟩ := txt_of wi al E V C K hc hb l2
  obtain ⟨v, B, X', ⟨⟨hv, hh⟩, hl, hk, hs⟩, st⟩ := ChN.pays x t A cs.length (fun j => cs.getD j 0) z fm i (tabChN_of (movedChN hZ hw)) hfr hlo m meth c P g ig mk _ X hg hsize hdg hW hn ⟨r1, r2, rfl, hx, hi, sta_is al S, hz, sta_is al F, rf⟩
  exact ⟨v, B, X', ⟨[], ⟨hv, rfl, hh⟩, hl, hk, hs⟩, st⟩
/-- what backV says of its String, as the contracts of this text ask it: cs's low bytes, coder 0 -/
theorem codOf {cs : List Int32} {n : Nat} (hn : cs.length = n) (hb : ∀ c ∈ cs, ¬ 255 < c) : CodA cs 0 (Int32.ofNat n) ((cs.map lo8).map Value.int) := Or.inl ⟨rfl, by rw [hn], by simp [List.map_map, Function.comp_def], hb⟩
end StrChars.Road
end Jvm.Pilot.@@N@@
namespace Jvm.Pilot.@@N@@
open Jvm Jvm.ClassFile Sem Op Lib Jvm.Free Jvm.Stand Jvm.LawKit Jvm.RoadKit Bundle Jvm.Pilot.@@N@@.Jvm.D
theorem w0 {a0 : Array Value} {Z : State} (hw : ∀ d ∈ tables_1, d.before a0 Z = true) : (Jvm.Cond.constant "com/example/idemkey/idemkey/key/StructuredFieldStringSkipSpacesPinLaw" (12 : Nat) (2147483647 : Int32)).before a0 Z = true := hw _ (List.mem_of_getElem? (i := 0) rfl)
theorem w1 {a0 : Array Value} {Z : State} (hw : ∀ d ∈ tables_1, d.before a0 Z = true) : (Jvm.Cond.methodLink "com/example/idemkey/idemkey/key/StructuredFieldStringSkipSpacesPinLaw" (13 : Nat) ({ cls := "com/example/idemkey/idemkey/key/StructuredFieldStringSkipSpacesPinLaw", name := "ch", desc := "(I)C" } : Jvm.MethodName)).before a0 Z = true := hw _ (List.mem_of_getElem? (i := 1) rfl)
theorem w2 {a0 : Array Value} {Z : State} (hw : ∀ d ∈ tables_1, d.before a0 Z = true) : (Jvm.Cond.static ({ cls := "com/example/idemkey/idemkey/key/StructuredFieldStringSkipSpacesPinLaw", name := "ch", desc := "(I)C" } : Jvm.MethodName)).before a0 Z = true := hw _ (List.mem_of_getElem? (i := 2) rfl)
theorem w3 {a0 : Array Value} {Z : State} (hw : ∀ d ∈ tables_1, d.before a0 Z = true) : (Jvm.Cond.initialized "com/example/idemkey/idemkey/key/StructuredFieldStringSkipSpacesPinLaw").before a0 Z = true := hw _ (List.mem_of_getElem? (i := 3) rfl)
theorem w4 {a0 : Array Value} {Z : State} (hw : ∀ d ∈ tables_1, d.before a0 Z = true) : (Jvm.Cond.code ({ cls := "com/example/idemkey/idemkey/key/StructuredFieldStringSkipSpacesPinLaw", name := "ch", desc := "(I)C" } : Jvm.MethodName) method_2_code (1 : Nat) (Option.some Jvm.ClassFile.FieldType.char)).before a0 Z = true := hw _ (List.mem_of_getElem? (i := 4) rfl)
theorem w5 {a0 : Array Value} {Z : State} (hw : ∀ d ∈ tables_1, d.before a0 Z = true) : (Jvm.Cond.arrayClass Jvm.ClassFile.FieldType.char).before a0 Z = true := hw _ (List.mem_of_getElem? (i := 5) rfl)
theorem w6 {a0 : Array Value} {Z : State} (hw : ∀ d ∈ tables_1, d.before a0 Z = true) : (Jvm.Cond.methodLink "com/example/idemkey/idemkey/key/StructuredFieldStringSkipSpacesPinLaw" (19 : Nat) ({ cls := "com/example/idemkey/idemkey/key/StructuredFieldStringSkipSpacesPinLaw", name := "make", desc := "(ICCCC)Ljava/lang/String;" } : Jvm.MethodName)).before a0 Z = true := hw _ (List.mem_of_getElem? (i := 6) rfl)
theorem w7 {a0 : Array Value} {Z : State} (hw : ∀ d ∈ tables_1, d.before a0 Z = true) : (Jvm.Cond.static ({ cls := "com/example/idemkey/idemkey/key/StructuredFieldStringSkipSpacesPinLaw", name := "make", desc := "(ICCCC)Ljava/lang/String;" } : Jvm.MethodName)).before a0 Z = true := hw _ (List.mem_of_getElem? (i := 7) rfl)
theorem w8 {a0 : Array Value} {Z : State} (hw : ∀ d ∈ tables_1, d.before a0 Z = true) : (Jvm.Cond.code ({ cls := "com/example/idemkey/idemkey/key/StructuredFieldStringSkipSpacesPinLaw", name := "make", desc := "(ICCCC)Ljava/lang/String;" } : Jvm.MethodName) method_3_code (5 : Nat) (Option.some (Jvm.ClassFile.FieldType.object "java/lang/String"))).before a0 Z = true := hw _ (List.mem_of_getElem? (i := 8) rfl)
theorem w9 {a0 : Array Value} {Z : State} (hw : ∀ d ∈ tables_1, d.before a0 Z = true) : (Jvm.Cond.classLink "com/example/idemkey/idemkey/key/StructuredFieldStringSkipSpacesPinLaw" (7 : Nat) "java/lang/String").before a0 Z = true := hw _ (List.mem_of_getElem? (i := 9) rfl)
theorem w10 {a0 : Array Value} {Z : State} (hw : ∀ d ∈ tables_1, d.before a0 Z = true) : (Jvm.Cond.instantiable "java/lang/String" (4 : Nat)).before a0 Z = true := hw _ (List.mem_of_getElem? (i := 10) rfl)
theorem w11 {a0 : Array Value} {Z : State} (hw : ∀ d ∈ tables_1, d.before a0 Z = true) : (Jvm.Cond.initialized "java/lang/String").before a0 Z = true := hw _ (List.mem_of_getElem? (i := 11) rfl)
theorem w12 {a0 : Array Value} {Z : State} (hw : ∀ d ∈ tables_1, d.before a0 Z = true) : (Jvm.Cond.methodLink "com/example/idemkey/idemkey/key/StructuredFieldStringSkipSpacesPinLaw" (9 : Nat) ({ cls := "java/lang/String", name := "<init>", desc := "([C)V" } : Jvm.MethodName)).before a0 Z = true := hw _ (List.mem_of_getElem? (i := 12) rfl)
theorem w13 {a0 : Array Value} {Z : State} (hw : ∀ d ∈ tables_1, d.before a0 Z = true) : (Jvm.Cond.instanceMethod ({ cls := "java/lang/String", name := "<init>", desc := "([C)V" } : Jvm.MethodName)).before a0 Z = true := hw _ (List.mem_of_getElem? (i := 13) rfl)
theorem w14 {a0 : Array Value} {Z : State} (hw : ∀ d ∈ tables_1, d.before a0 Z = true) : (Jvm.Cond.code ({ cls := "java/lang/String", name := "<init>", desc := "([C)V" } : Jvm.MethodName) jdk_42_method_3_code (2 : Nat) (Option.none : Option Jvm.ClassFile.FieldType)).before a0 Z = true := hw _ (List.mem_of_getElem? (i := 14) rfl)
theorem w15 {a0 : Array Value} {Z : State} (hw : ∀ d ∈ tables_1, d.before a0 Z = true) : (Jvm.Cond.methodLink "java/lang/String" (27 : Nat) ({ cls := "java/lang/String", name := "<init>", desc := "([CIILjava/lang/Void;)V" } : Jvm.MethodName)).before a0 Z = true := hw _ (List.mem_of_getElem? (i := 15) rfl)
theorem w16 {a0 : Array Value} {Z : State} (hw : ∀ d ∈ tables_1, d.before a0 Z = true) : (Jvm.Cond.instanceMethod ({ cls := "java/lang/String", name := "<init>", desc := "([CIILjava/lang/Void;)V" } : Jvm.MethodName)).before a0 Z = true := hw _ (List.mem_of_getElem? (i := 16) rfl)
theorem w18 {a0 : Array Value} {Z : State} (hw : ∀ d ∈ tables_1, d.before a0 Z = true) : (Jvm.Cond.code ({ cls := "java/lang/String", name := "<init>", desc := "([CIILjava/lang/Void;)V" } : Jvm.MethodName) jdk_42_method_149_code (6 : Nat) (Option.none : Option Jvm.ClassFile.FieldType)).before a0 Z = true := hw _ (List.mem_of_getElem? (i := 18) rfl)
theorem w19 {a0 : Array Value} {Z : State} (hw : ∀ d ∈ tables_1, d.before a0 Z = true) : (Jvm.Cond.methodLink "java/lang/String" (1 : Nat) ({ cls := "java/lang/Object", name := "<init>", desc := "()V" } : Jvm.MethodName)).before a0 Z = true := hw _ (List.mem_of_getElem? (i := 19) rfl)
theorem w20 {a0 : Array Value} {Z : State} (hw : ∀ d ∈ tables_1, d.before a0 Z = true) : (Jvm.Cond.instanceMethod ({ cls := "java/lang/Object", name := "<init>", desc := "()V" } : Jvm.MethodName)).before a0 Z = true := hw _ (List.mem_of_getElem? (i := 20) rfl)
theorem w21 {a0 : Array Value} {Z : State} (hw : ∀ d ∈ tables_1, d.before a0 Z = true) : (Jvm.Cond.code ({ cls := "java/lang/Object", name := "<init>", desc := "()V" } : Jvm.MethodName) object_method_1_code (1 : Nat) (Option.none : Option Jvm.ClassFile.FieldType)).before a0 Z = true := hw _ (List.mem_of_getElem? (i := 21) rfl)
theorem w22 {a0 : Array Value} {Z : State} (hw : ∀ d ∈ tables_1, d.before a0 Z = true) : (Jvm.Cond.stringLink "java/lang/String" (7 : Nat) "").before a0 Z = true := hw _ (List.mem_of_getElem? (i := 22) rfl)
theorem w23 {a0 : Array Value} {Z : State} (hw : ∀ d ∈ tables_1, d.before a0 Z = true) : (Jvm.Cond.arrayClass Jvm.ClassFile.FieldType.byte).before a0 Z = true := hw _ (List.mem_of_getElem? (i := 23) rfl)
theorem w24 {a0 : Array Value} {Z : State} (hw : ∀ d ∈ tables_1, d.before a0 Z = true) : (Jvm.Cond.laysFinal "java/lang/String" "java/lang/String" "value" "[B").before a0 Z = true := hw _ (List.mem_of_getElem? (i := 24) rfl)
theorem w25 {a0 : Array Value} {Z : State} (hw : ∀ d ∈ tables_1, d.before a0 Z = true) : (Jvm.Cond.laysFinal "java/lang/String" "java/lang/String" "coder" "B").before a0 Z = true := hw _ (List.mem_of_getElem? (i := 25) rfl)
theorem w26 {a0 : Array Value} {Z : State} (hw : ∀ d ∈ tables_1, d.before a0 Z = true) : (Jvm.Cond.soleField "java/lang/String" "value").before a0 Z = true := hw _ (List.mem_of_getElem? (i := 26) rfl)
theorem w27 {a0 : Array Value} {Z : State} (hw : ∀ d ∈ tables_1, d.before a0 Z = true) : (Jvm.Cond.soleField "java/lang/String" "coder").before a0 Z = true := hw _ (List.mem_of_getElem? (i := 27) rfl)
theorem w28 {a0 : Array Value} {Z : State} (hw : ∀ d ∈ tables_1, d.before a0 Z = true) : (Jvm.Cond.fieldLink "java/lang/String" (9 : Nat) "java/lang/String" "value" "[B").before a0 Z = true := hw _ (List.mem_of_getElem? (i := 28) rfl)
theorem w29 {a0 : Array Value} {Z : State} (hw : ∀ d ∈ tables_1, d.before a0 Z = true) : (Jvm.Cond.fieldLink "java/lang/String" (15 : Nat) "java/lang/String" "coder" "B").before a0 Z = true := hw _ (List.mem_of_getElem? (i := 29) rfl)
theorem w30 {a0 : Array Value} {Z : State} (hw : ∀ d ∈ tables_1, d.before a0 Z = true) : (Jvm.Cond.methodLink "com/example/idemkey/idemkey/key/StructuredFieldStringSkipSpacesPinLaw" (23 : Nat) ({ cls := "com/example/idemkey/idemkey/key/StructuredFieldString", name := "skipSpaces", desc := "(Ljava/lang/String;I)I" } : Jvm.MethodName)).before a0 Z = true := hw _ (List.mem_of_getElem? (i := 30) rfl)
theorem w31 {a0 : Array Value} {Z : State} (hw : ∀ d ∈ tables_1, d.before a0 Z = true) : (Jvm.Cond.static ({ cls := "com/example/idemkey/idemkey/key/StructuredFieldString", name := "skipSpaces", desc := "(Ljava/lang/String;I)I" } : Jvm.MethodName)).before a0 Z = true := hw _ (List.mem_of_getElem? (i := 31) rfl)
theorem w32 {a0 : Array Value} {Z : State} (hw : ∀ d ∈ tables_1, d.before a0 Z = true) : (Jvm.Cond.initialized "com/example/idemkey/idemkey/key/StructuredFieldString").before a0 Z = true := hw _ (List.mem_of_getElem? (i := 32) rfl)
theorem w33 {a0 : Array Value} {Z : State} (hw : ∀ d ∈ tables_1, d.before a0 Z = true) : (Jvm.Cond.code ({ cls := "com/example/idemkey/idemkey/key/StructuredFieldString", name := "skipSpaces", desc := "(Ljava/lang/String;I)I" } : Jvm.MethodName) prog_7_method_3_code (3 : Nat) (Option.some Jvm.ClassFile.FieldType.int)).before a0 Z = true := hw _ (List.mem_of_getElem? (i := 33) rfl)
theorem w34 {a0 : Array Value} {Z : State} (hw : ∀ d ∈ tables_1, d.before a0 Z = true) : (Jvm.Cond.methodLink "com/example/idemkey/idemkey/key/StructuredFieldString" (13 : Nat) ({ cls := "java/lang/String", name := "length", desc := "()I" } : Jvm.MethodName)).before a0 Z = true := hw _ (List.mem_of_getElem? (i := 34) rfl)
theorem w35 {a0 : Array Value} {Z : State} (hw : ∀ d ∈ tables_1, d.before a0 Z = true) : (Jvm.Cond.declares ({ cls := "java/lang/String", name := "length", desc := "()I" } : Jvm.MethodName)).before a0 Z = true := hw _ (List.mem_of_getElem? (i := 35) rfl)
theorem w36 {a0 : Array Value} {Z : State} (hw : ∀ d ∈ tables_1, d.before a0 Z = true) : (Jvm.Cond.instanceMethod ({ cls := "java/lang/String", name := "length", desc := "()I" } : Jvm.MethodName)).before a0 Z = true := hw _ (List.mem_of_getElem? (i := 36) rfl)
theorem w37 {a0 : Array Value} {Z : State} (hw : ∀ d ∈ tables_1, d.before a0 Z = true) : (Jvm.Cond.selects "java/lang/String" ({ cls := "java/lang/String", name := "length", desc := "()I" } : Jvm.MethodName) ({ cls := "java/lang/String", name := "length", desc := "()I" } : Jvm.MethodName)).before a0 Z = true := hw _ (List.mem_of_getElem? (i := 37) rfl)
theorem w45 {a0 : Array Value} {Z : State} (hw : ∀ d ∈ tables_1, d.before a0 Z = true) : (Jvm.Cond.methodLink "com/example/idemkey/idemkey/key/StructuredFieldStringSkipSpacesPinLaw" (29 : Nat) ({ cls := "com/example/idemkey/idemkey/key/StructuredFieldStringSkipSpacesPinLaw", name := "spaceIfSkipped", desc := "(IIIC)Z" } : Jvm.MethodName)).before a0 Z = true := hw _ (List.mem_of_getElem? (i := 45) rfl)
theorem w46 {a0 : Array Value} {Z : State} (hw : ∀ d ∈ tables_1, d.before a0 Z = true) : (Jvm.Cond.static ({ cls := "com/example/idemkey/idemkey/key/StructuredFieldStringSkipSpacesPinLaw", name := "spaceIfSkipped", desc := "(IIIC)Z" } : Jvm.MethodName)).before a0 Z = true := hw _ (List.mem_of_getElem? (i := 46) rfl)
theorem w47 {a0 : Array Value} {Z : State} (hw : ∀ d ∈ tables_1, d.before a0 Z = true) : (Jvm.Cond.code ({ cls := "com/example/idemkey/idemkey/key/StructuredFieldStringSkipSpacesPinLaw", name := "spaceIfSkipped", desc := "(IIIC)Z" } : Jvm.MethodName) method_4_code (4 : Nat) (Option.some Jvm.ClassFile.FieldType.boolean)).before a0 Z = true := hw _ (List.mem_of_getElem? (i := 47) rfl)
theorem w58 {a0 : Array Value} {Z : State} (hw : ∀ d ∈ tables_1, d.before a0 Z = true) : (Jvm.Cond.methodLink "com/example/idemkey/idemkey/key/StructuredFieldString" (19 : Nat) ({ cls := "java/lang/String", name := "charAt", desc := "(I)C" } : Jvm.MethodName)).before a0 Z = true := hw _ (List.mem_of_getElem? (i := 58) rfl)
theorem w59 {a0 : Array Value} {Z : State} (hw : ∀ d ∈ tables_1, d.before a0 Z = true) : (Jvm.Cond.declares ({ cls := "java/lang/String", name := "charAt", desc := "(I)C" } : Jvm.MethodName)).before a0 Z = true := hw _ (List.mem_of_getElem? (i := 59) rfl)
theorem w60 {a0 : Array Value} {Z : State} (hw : ∀ d ∈ tables_1, d.before a0 Z = true) : (Jvm.Cond.instanceMethod ({ cls := "java/lang/String", name := "charAt", desc := "(I)C" } : Jvm.MethodName)).before a0 Z = true := hw _ (List.mem_of_getElem? (i := 60) rfl)
theorem w61 {a0 : Array Value} {Z : State} (hw : ∀ d ∈ tables_1, d.before a0 Z = true) : (Jvm.Cond.selects "java/lang/String" ({ cls := "java/lang/String", name := "charAt", desc := "(I)C" } : Jvm.MethodName) ({ cls := "java/lang/String", name := "charAt", desc := "(I)C" } : Jvm.MethodName)).before a0 Z = true := hw _ (List.mem_of_getElem? (i := 61) rfl)
theorem pd___CIILjava_lang_Void__V : parseMethodDescriptor "([CIILjava/lang/Void;)V" = some ⟨[(.array .char), .int, .int, (.object "java/lang/Void")], none⟩ := by decide +kernel
theorem pd___C_V : parseMethodDescriptor "([C)V" = some ⟨[(.array .char)], none⟩ := by decide +kernel
theorem pd___I : parseMethodDescriptor "()I" = some ⟨[], (some .int)⟩ := by decide +kernel
theorem pd__I_C : parseMethodDescriptor "(I)C" = some ⟨[.int], (some .char)⟩ := by decide +kernel
theorem pd__ICCCC_Ljava_lang_String_ : parseMethodDescriptor "(ICCCC)Ljava/lang/String;" = some ⟨[.int, .char, .char, .char, .char], (some (.object "java/lang/String"))⟩ := by decide +kernel
theorem pd__Ljava_lang_String_I_I : parseMethodDescriptor "(Ljava/lang/String;I)I" = some ⟨[(.object "java/lang/String"), .int], (some .int)⟩ := by decide +kernel
theorem pd__IIIC_Z : parseMethodDescriptor "(IIIC)Z" = some ⟨[.int, .int, .int, .char], (some .boolean)⟩ := by decide +kernel
theorem pn_com_example_idemkey_idemkey_key_StructuredFieldStringSkipSpacesPinLaw : plainName "com/example/idemkey/idemkey/key/StructuredFieldStringSkipSpacesPinLaw" = true := by first | (simp [plainName, overriddenIn]; done) | decide +kernel
theorem pn_java_lang_String : plainName "java/lang/String" = true := by first | (simp [plainName, overriddenIn]; done) | decide +kernel
theorem pn_com_example_idemkey_idemkey_key_StructuredFieldString : plainName "com/example/idemkey/idemkey/key/StructuredFieldString" = true := by first | (simp [plainName, overriddenIn]; done) | decide +kernel

/-- a Latin-1 String that spells cs -/
def own_Str (Z : State) (h : Heap) (a : Addr) (cs : List Int32) : Prop := ∃ (t : Addr) (kb : ClassId), Exa Z h a "java/lang/String" ∧ Fld Z h a "java/lang/String" "coder" "B" (.int 0) ∧ Fld Z h a "java/lang/String" "value" "[B" (.ref t) ∧ Arv Z h t kb .byte (Int32.ofNat cs.length) ((cs.map StrChars.lo8).map Value.int) (.int 0)
theorem own_ltn {i n : Nat} (h : i < n) (hn : n < 2 ^ 31) : Int32.ofNat i < Int32.ofNat n := Int32.lt_iff_toInt_lt.mpr (by rw [Int32.toInt_ofNat_of_lt (by omega), Int32.toInt_ofNat_of_lt (by omega)]; omega)
theorem own_nltn {i n : Nat} (h : n ≤ i) (hn : i < 2 ^ 31) : ¬ Int32.ofNat i < Int32.ofNat n := fun q => by
  have := Int32.lt_iff_toInt_lt.mp q
  rw [Int32.toInt_ofNat_of_lt (by omega), Int32.toInt_ofNat_of_lt (by omega)] at this; omega
theorem own_one (i : Nat) : Int32.ofNat i + (1 : Int32) = Int32.ofNat (i + 1) := (Int32.ofNat_add i 1).symm
theorem own_onat {x : Int32} {k : Nat} (h : x.toInt = k) : x = Int32.ofNat k := Int32.toInt_inj.mp (by rw [h, Int32.toInt_ofNat_of_lt (by have := x.toInt_lt; omega)])
theorem own_natne {i n : Nat} (hi : i < 2 ^ 31) (hn : n < 2 ^ 31) (h : Int32.ofNat i = Int32.ofNat n) : i = n := by
  have := congrArg Int32.toInt h
  rw [Int32.toInt_ofNat_of_lt (by omega), Int32.toInt_ofNat_of_lt (by omega)] at this; omega
theorem own_hwsL {a0 : Array Value} {Z : State} (hw : ∀ d ∈ tables_1, d.before a0 Z = true) : ∀ d ∈ StrChars.Road.wordsLen, d.before a0 Z = true := fun d hd => hw d ((by decide +kernel : ∀ d ∈ StrChars.Road.wordsLen, d ∈ tables_1) d hd)
theorem own_hwsC {a0 : Array Value} {Z : State} (hw : ∀ d ∈ tables_1, d.before a0 Z = true) : ∀ d ∈ StrChars.Road.wordsChN, d.before a0 Z = true := fun d hd => hw d ((by decide +kernel : ∀ d ∈ StrChars.Road.wordsChN, d ∈ tables_1) d hd)
theorem own_EW {a0 : Array Value} {Z : State} (hw : ∀ d ∈ tables_1, d.before a0 Z = true) : EW Z a0 consts_1 := (EW.cons (w22 hw) (by decide) EW.nil)
theorem own_hws {a0 : Array Value} {Z : State} (hw : ∀ d ∈ tables_1, d.before a0 Z = true) : ∀ d ∈ StrChars.Road.words, d.before a0 Z = true := fun d hd => hw d ((by decide +kernel : ∀ d ∈ StrChars.Road.words, d ∈ tables_1) d hd)
theorem own_strAtoms {a0 : Array Value} {Z : State} (hw : ∀ d ∈ tables_1, d.before a0 Z = true) : ∀ a ∈ Bundle.stringAtoms, a.before a0 Z = true := fun d hd => by
  simp only [Bundle.stringAtoms, Bundle.sN, List.mem_cons, List.not_mem_nil, or_false] at hd
  rcases hd with rfl | rfl | rfl | rfl | rfl | rfl | rfl
  · exact (w11 hw)
  · exact (w10 hw)
  · exact (w23 hw)
  · exact (w24 hw)
  · exact (w25 hw)
  · exact (w26 hw)
  · exact (w27 hw)

theorem own_nneg {n : Int32} (h : 0 ≤ n.toInt) : ¬ n < (0 : Int32) := fun q => by
  have := Int32.lt_iff_toInt_lt.mp q
  have e : (0 : Int32).toInt = 0 := by decide
  omega
theorem own_nlt {x y : Int32} (h : y.toInt ≤ x.toInt) : ¬ x < y := fun q => by
  have := Int32.lt_iff_toInt_lt.mp q; omega
theorem own_lt {x y : Int32} (h : x.toInt < y.toInt) : x < y := Int32.lt_iff_toInt_lt.mpr h
theorem own_m255 (x : Int32) : 0 ≤ (x &&& (255 : Int32)).toInt ∧ (x &&& (255 : Int32)).toInt ≤ 255 := c_and x 255 (by decide)
/-- a char below 256 is what castore lays of it -/
theorem own_narc {x : Int32} (h1 : 0 ≤ x.toInt) (h2 : x.toInt ≤ 65535) : nar .char x = x := by
  have e : (x.toUInt32.toUInt16.toUInt32.toInt32.toInt - x.toInt) % 65536 = 0 := (c_i2c x).1
  have r := (c_i2c x).2
  have : nar .char x = x.toUInt32.toUInt16.toUInt32.toInt32 := rfl
  rw [this]
  exact Int32.toInt_inj.mp (by omega)
theorem own_i2c {x : Int32} (h1 : 0 ≤ x.toInt) (h2 : x.toInt ≤ 65535) : x.toUInt32.toUInt16.toUInt32.toInt32 = x := own_narc h1 h2

theorem own_frnil {k : Nat} {L L' : List Loc} (N : Fr k L) (e : L' = []) : Fr k (L ++ L') := by subst e; rw [List.append_nil]; exact N
theorem own_up {c : Int32} (h : ¬ c < 0 ∧ ¬ (255 : Int32) < c) : ¬ c < 0 ∧ ¬ (65535 : Int32) < c := ⟨h.1, fun q => h.2 (Int32.lt_iff_toInt_lt.mpr (by have := Int32.lt_iff_toInt_lt.mp q; rw [show (65535 : Int32).toInt = 65535 by decide] at this; rw [show (255 : Int32).toInt = 255 by decide]; omega))⟩

theorem own_n255 (x : Int32) : nar .char (x &&& (255 : Int32)) = x &&& (255 : Int32) := own_narc (own_m255 x).1 (by have := (own_m255 x).2; omega)
theorem own_n8 {c : Int32} (h1 : 0 ≤ c.toInt) (h2 : c.toInt ≤ 255) : nar .char c = c := own_narc h1 (by omega)
theorem own_c8 {c : Int32} (h1 : 0 ≤ c.toInt) (h2 : c.toInt ≤ 255) : ¬ c < 0 ∧ ¬ (255 : Int32) < c := ⟨own_nneg h1, own_nlt (by show _ ≤ (255 : Int32).toInt; exact h2)⟩
def own_B (cs : List Int32) : Prop := ∀ c ∈ cs, ¬ c < 0 ∧ ¬ (255 : Int32) < c
theorem own_B.take {cs : List Int32} (h : own_B cs) (n : Nat) : own_B (cs.take n) := fun c hc => h c (List.mem_of_mem_take hc)

theorem own_m31 (x : Int32) : 0 ≤ (x &&& (2147483647 : Int32)).toInt := (c_and x 2147483647 (by decide)).1
theorem own_len5 (x : Int32) : ∃ n : Nat, n ≤ 4 ∧ (x &&& (2147483647 : Int32)) % (5 : Int32) = Int32.ofNat n := by
  have h2 := (c_irem (x &&& (2147483647 : Int32)) (5 : Int32) 5 (by decide)).1 (own_m31 x)
  have h3 := own_m31 x
  refine ⟨((x &&& (2147483647 : Int32)) % (5 : Int32)).toInt.toNat, by omega, own_onat (by omega)⟩
theorem own_n1 {n : Nat} (h : n ≤ 4) : (Int32.ofNat n + (1 : Int32)).toInt = n + 1 := by
  rw [own_one, Int32.toInt_ofNat_of_lt (by omega)]; omega
theorem own_n1ne {n : Nat} (h : n ≤ 4) : Int32.ofNat n + (1 : Int32) ≠ 0 := fun q => by
  have := own_n1 h
  rw [q, show (0 : Int32).toInt = 0 by decide] at this; omega
theorem own_from (x : Int32) {n : Nat} (h : n ≤ 4) : ∃ f : Nat, f ≤ n ∧ (x &&& (2147483647 : Int32)) % (Int32.ofNat n + (1 : Int32)) = Int32.ofNat f := by
  have h2 := (c_iremV (x &&& (2147483647 : Int32)) (Int32.ofNat n + (1 : Int32))).1 (own_m31 x) (by rw [own_n1 h]; omega)
  rw [own_n1 h] at h2
  exact ⟨((x &&& (2147483647 : Int32)) % (Int32.ofNat n + (1 : Int32))).toInt.toNat, by omega, own_onat (by omega)⟩
theorem own_at4 {c0 c1 c2 c3 : Int32} {r : Nat} (h : r < 4) : ([.int c0, .int c1, .int c2, .int c3] : List Value).getD (Int32.ofNat r).toNatClampNeg (.int 0) = .int ([c0, c1, c2, c3].getD r 0) := by
  have e : (Int32.ofNat r).toNatClampNeg = r := by
    simp only [Int32.toNatClampNeg, Int32.toInt_ofNat_of_lt (show r < 2 ^ 31 by omega)]; rfl
  rw [e]
  match r, h with
  | 0, _ => rfl
  | 1, _ => rfl
  | 2, _ => rfl
  | 3, _ => rfl
theorem own_take {l : List Int32} {n r : Nat} (h : r < n) : (l.take n).getD r 0 = l.getD r 0 := by
  simp [List.getD_eq_getElem?_getD, List.getElem?_take, h]
theorem own_takel {c0 c1 c2 c3 : Int32} {n : Nat} (h : n ≤ 4) : ([c0, c1, c2, c3].take n).length = n := by simp; omega
theorem own_sp {l : List Int32} {n f r k : Nat} {c : Int32} (hk : k < 4) (hc : l.getD k 0 = c) (hr : r ≤ n) (hn : n ≤ 4) (hf : f ≤ n) (hs : ∀ i, f ≤ i → i < r → (l.take n).getD i 0 = (32 : Int32)) : ¬ Int32.ofNat k < Int32.ofNat f → Int32.ofNat k < Int32.ofNat r → c = (32 : Int32) := fun h1 h2 => by
  have a1 : f ≤ k := Nat.le_of_not_lt fun q => h1 (own_ltn q (by omega))
  have a2 : k < r := Nat.lt_of_not_le fun q => own_nltn q (by omega) h2
  have := hs k a1 a2
  rw [own_take (by omega), hc] at this
  exact this

theorem dch_0 : decode method_2_code 0 = .ok (.iload_n 0, 1) := by decide +kernel
theorem dch_1 : decode method_2_code 1 = .ok (.sipush 256, 3) := by decide +kernel
theorem dch_4 : decode method_2_code 4 = .ok (.iand, 1) := by decide +kernel
theorem dch_5 : decode method_2_code 5 = .ok (.ifCond .eq 6, 3) := by decide +kernel
theorem dch_8 : decode method_2_code 8 = .ok (.bipush 32, 2) := by decide +kernel
theorem dch_10 : decode method_2_code 10 = .ok (.ireturn, 1) := by decide +kernel
theorem dch_11 : decode method_2_code 11 = .ok (.iload_n 0, 1) := by decide +kernel
theorem dch_12 : decode method_2_code 12 = .ok (.sipush 255, 3) := by decide +kernel
theorem dch_15 : decode method_2_code 15 = .ok (.iand, 1) := by decide +kernel
theorem dch_16 : decode method_2_code 16 = .ok (.i2c, 1) := by decide +kernel
theorem dch_17 : decode method_2_code 17 = .ok (.ireturn, 1) := by decide +kernel
set_option maxRecDepth 65536 in
set_option maxHeartbeats 40000000 in
theorem rm_ch (l : Launch) (Z : State) (a0 : Array Value) (hw : ∀ d ∈ tables_1, d.before a0 Z = true) (p1 : Int32) (h0 : Heap) (O0 : Old Z Z.heap.size h0)  :
    own_Con l Z (⟨"com/example/idemkey/idemkey/key/StructuredFieldStringSkipSpacesPinLaw", "ch", "(I)C"⟩ : MethodName) method_2_code 1 (some .char) ({ frames := 0, cells := 0, slots := 0, locals := 0 } : Room) #[(.int p1)] h0 (fun v h L => ∃ c, v = some (.int c) ∧ Fr Z.heap.size L ∧ h = h0 ∧ 0 ≤ c.toInt ∧ c.toInt ≤ 255) := by
  refine own_con (ls := #[.val (.int p1)]) (pn_com_example_idemkey_idemkey_key_StructuredFieldStringSkipSpacesPinLaw) (fun m => by first | (simp [entryFrame, mkF, argsToLocals, Value.category]; done) | rfl) ?_
  intro p e s m below meth c s₁ hx hby hml0 hown0 hnm0 hret0 hlk hZ X0 e0
  have hml : c.maxLocals = 1 := hml0
  have hown : s.vm.findClass "com/example/idemkey/idemkey/key/StructuredFieldStringSkipSpacesPinLaw" = some m.cls := hown0
  have hnm : meth.name = "ch" := hnm0
  have hret : meth.sig.returnType = (some .char) := hret0
  have F1 := Fr.nil Z.heap.size
  have F2 := Keep.refl h0 []
  refine own_step (T' := s₁) (g' := (mkF m 1 #[.val (.int p1)] [(.int p1)])) (fun _ kk => XS.iloadN X0.here hx rfl (hb hby dch_0) rfl kk) ?_
  refine own_step (T' := s₁) (g' := (mkF m 4 #[.val (.int p1)] [(.int (256 : Int32)), (.int p1)])) (fun _ kk => XS.sipush X0.here hx rfl (hb hby dch_1) kk) ?_
  refine own_step (T' := s₁) (g' := (mkF m 5 #[.val (.int p1)] [(.int (p1 &&& (256 : Int32)))])) (fun _ kk => XS.iand X0.here hx rfl (hb hby dch_4) rfl kk) ?_
  by_cases c3 : (p1 &&& (256 : Int32)) = (0 : Int32)
  · refine own_step (T' := s₁) (g' := (mkF m 11 #[.val (.int p1)] [])) (fun _ kk => XS.ifYes X0.here hx rfl (pc0 := 5) (pc' := 11) rfl (hb hby dch_5) rfl ((if0 _ _).trans (teq c3).1) (by decide) (by decide) kk) ?_
    refine own_step (T' := s₁) (g' := (mkF m 12 #[.val (.int p1)] [(.int p1)])) (fun _ kk => XS.iloadN X0.here hx rfl (hb hby dch_11) rfl kk) ?_
    refine own_step (T' := s₁) (g' := (mkF m 15 #[.val (.int p1)] [(.int (255 : Int32)), (.int p1)])) (fun _ kk => XS.sipush X0.here hx rfl (hb hby dch_12) kk) ?_
    refine own_step (T' := s₁) (g' := (mkF m 16 #[.val (.int p1)] [(.int (p1 &&& (255 : Int32)))])) (fun _ kk => XS.iand X0.here hx rfl (hb hby dch_15) rfl kk) ?_
    refine own_step (T' := s₁) (g' := (mkF m 17 #[.val (.int p1)] [(.int ((p1 &&& (255 : Int32)).toUInt32.toUInt16.toUInt32.toInt32))])) (fun _ kk => XS.i2c X0.here hx rfl (hb hby dch_16) rfl kk) ?_
    rw [i2c_mask]
    exact own_retN X0 hx hlk (t := .char) hret (by simp) (hb hby dch_17) e0 ⟨p1 &&& (255 : Int32), by rw [own_n255], F1, rfl, (own_m255 p1).1, (own_m255 p1).2⟩ (by decide) (by decide)
  · refine own_step (T' := s₁) (g' := (mkF m 8 #[.val (.int p1)] [])) (fun _ kk => XS.ifNo X0.here hx rfl (hb hby dch_5) rfl ((if0 _ _).trans (feq c3).1) kk) ?_
    refine own_step (T' := s₁) (g' := (mkF m 10 #[.val (.int p1)] [(.int (32 : Int32))])) (fun _ kk => XS.bipush X0.here hx rfl (hb hby dch_8) kk) ?_
    exact own_retN X0 hx hlk (t := .char) hret (by simp) (hb hby dch_10) e0 ⟨(32 : Int32), rfl, F1, rfl, by decide, by decide⟩ (by decide) (by decide)
theorem dsv_0 : decode jdk_42_method_149_code 0 = .ok (.aload_n 0, 1) := by decide +kernel
theorem dsv_1 : decode jdk_42_method_149_code 1 = .ok (.invokespecial 1, 3) := by decide +kernel
theorem dsv_4 : decode jdk_42_method_149_code 4 = .ok (.iload_n 3, 1) := by decide +kernel
theorem dsv_5 : decode jdk_42_method_149_code 5 = .ok (.ifCond .ne 22, 3) := by decide +kernel
theorem dsv_8 : decode jdk_42_method_149_code 8 = .ok (.aload_n 0, 1) := by decide +kernel
theorem dsv_9 : decode jdk_42_method_149_code 9 = .ok (.ldc 7, 2) := by decide +kernel
theorem dsv_11 : decode jdk_42_method_149_code 11 = .ok (.getfield 9, 3) := by decide +kernel
theorem dsv_14 : decode jdk_42_method_149_code 14 = .ok (.putfield 9, 3) := by decide +kernel
theorem dsv_17 : decode jdk_42_method_149_code 17 = .ok (.aload_n 0, 1) := by decide +kernel
theorem dsv_18 : decode jdk_42_method_149_code 18 = .ok (.ldc 7, 2) := by decide +kernel
theorem dsv_20 : decode jdk_42_method_149_code 20 = .ok (.getfield 15, 3) := by decide +kernel
theorem dsv_23 : decode jdk_42_method_149_code 23 = .ok (.putfield 15, 3) := by decide +kernel
theorem dsv_26 : decode jdk_42_method_149_code 26 = .ok (.return_, 1) := by decide +kernel
theorem dsv_27 : decode jdk_42_method_149_code 27 = .ok (.getstatic 38, 3) := by decide +kernel
theorem dsv_30 : decode jdk_42_method_149_code 30 = .ok (.ifCond .eq 28, 3) := by decide +kernel
theorem dsv_33 : decode jdk_42_method_149_code 33 = .ok (.aload_n 1, 1) := by decide +kernel
theorem dsv_34 : decode jdk_42_method_149_code 34 = .ok (.iload_n 2, 1) := by decide +kernel
theorem dsv_35 : decode jdk_42_method_149_code 35 = .ok (.iload_n 3, 1) := by decide +kernel
theorem dsv_36 : decode jdk_42_method_149_code 36 = .ok (.invokestatic 177, 3) := by decide +kernel
theorem dsv_39 : decode jdk_42_method_149_code 39 = .ok (.astore 5, 2) := by decide +kernel
theorem dsv_41 : decode jdk_42_method_149_code 41 = .ok (.aload_n 0, 1) := by decide +kernel
theorem dsv_42 : decode jdk_42_method_149_code 42 = .ok (.aload 5, 2) := by decide +kernel
theorem dsv_44 : decode jdk_42_method_149_code 44 = .ok (.iload_n 3, 1) := by decide +kernel
theorem dsv_45 : decode jdk_42_method_149_code 45 = .ok (.invokestatic 47, 3) := by decide +kernel
theorem dsv_48 : decode jdk_42_method_149_code 48 = .ok (.putfield 15, 3) := by decide +kernel
theorem dsv_51 : decode jdk_42_method_149_code 51 = .ok (.aload_n 0, 1) := by decide +kernel
theorem dsv_52 : decode jdk_42_method_149_code 52 = .ok (.aload 5, 2) := by decide +kernel
theorem dsv_54 : decode jdk_42_method_149_code 54 = .ok (.putfield 9, 3) := by decide +kernel
theorem dsv_57 : decode jdk_42_method_149_code 57 = .ok (.return_, 1) := by decide +kernel
theorem dsv_58 : decode jdk_42_method_149_code 58 = .ok (.aload_n 0, 1) := by decide +kernel
theorem dsv_59 : decode jdk_42_method_149_code 59 = .ok (.iconst 1, 1) := by decide +kernel
theorem dsv_60 : decode jdk_42_method_149_code 60 = .ok (.putfield 15, 3) := by decide +kernel
theorem dsv_63 : decode jdk_42_method_149_code 63 = .ok (.aload_n 0, 1) := by decide +kernel
theorem dsv_64 : decode jdk_42_method_149_code 64 = .ok (.aload_n 1, 1) := by decide +kernel
theorem dsv_65 : decode jdk_42_method_149_code 65 = .ok (.iload_n 2, 1) := by decide +kernel
theorem dsv_66 : decode jdk_42_method_149_code 66 = .ok (.iload_n 3, 1) := by decide +kernel
theorem dsv_67 : decode jdk_42_method_149_code 67 = .ok (.invokestatic 180, 3) := by decide +kernel
theorem dsv_70 : decode jdk_42_method_149_code 70 = .ok (.putfield 9, 3) := by decide +kernel
theorem dsv_73 : decode jdk_42_method_149_code 73 = .ok (.return_, 1) := by decide +kernel
set_option maxRecDepth 65536 in
set_option maxHeartbeats 40000000 in
theorem rm_sv (l : Launch) (Z : State) (a0 : Array Value) (hw : ∀ d ∈ tables_1, d.before a0 Z = true) (a1 b2 : Addr) (h0 : Heap) (O0 : Old Z Z.heap.size h0) (O1 : own_Obj Z h0 a1 "java/lang/String") (g1 : Z.heap.size ≤ a1) :
    own_ConW l Z (fun vm => CHv Z consts_1 vm h0 ∧ Safe Z consts_1 vm h0 a1) (⟨"java/lang/String", "<init>", "([CIILjava/lang/Void;)V"⟩ : MethodName) jdk_42_method_149_code 6 none ({ frames := 1, cells := 2, slots := 4, locals := 12 } : Room) #[(.ref a1), (.ref b2), (.int (0 : Int32)), (.int (0 : Int32)), .null] h0 (fun v h L => v = none ∧ Fr Z.heap.size L ∧ Keep h0 h [a1] ∧ own_Str Z h a1 []) := by
  refine own_conW (ls := #[.val (.ref a1), .val (.ref b2), .val (.int (0 : Int32)), .val (.int (0 : Int32)), .val .null, .unset]) (pn_java_lang_String) (fun m => by first | (simp [entryFrame, mkF, argsToLocals, Value.category]; done) | rfl) ?_
  intro p e s m below meth c s₁ hx hby hml0 hown0 hnm0 hret0 hlk hZ X0 e0 hS0 hJ
  have hml : c.maxLocals = 6 := hml0
  have hown : s.vm.findClass "java/lang/String" = some m.cls := hown0
  have hnm : meth.name = "<init>" := hnm0
  have hret : meth.sig.returnType = none := hret0
  have F4 := Fr.nil Z.heap.size
  have F5 := Keep.refl h0 []
  have F6 := Keep.refl h0 [a1]
  refine own_step (T' := s₁) (g' := (mkF m 1 #[.val (.ref a1), .val (.ref b2), .val (.int (0 : Int32)), .val (.int (0 : Int32)), .val .null, .unset] [(.ref a1)])) (fun _ kk => XS.aloadN X0.here hx rfl (hb hby dsv_0) rfl rfl kk) ?_
  obtain ⟨T7, X7, e7, st7⟩ := initO X0 hx hZ hown (w19 hw) (w20 hw) (w21 hw) e0 (g := (mkF m 1 #[.val (.ref a1), .val (.ref b2), .val (.int (0 : Int32)), .val (.int (0 : Int32)), .val .null, .unset] [(.ref a1)])) rfl (by rw [hml]; rfl) rfl (hb hby dsv_1) (by decide) (W := 0) (by show 2 * 0 + _ ≤ _; exact Nat.le_of_eq rfl) (by decide)
  refine own_step (T' := T7) (g' := (mkF m 4 #[.val (.ref a1), .val (.ref b2), .val (.int (0 : Int32)), .val (.int (0 : Int32)), .val .null, .unset] [])) (fun _ kk => st7 _ kk) ?_
  refine own_step (T' := T7) (g' := (mkF m 5 #[.val (.ref a1), .val (.ref b2), .val (.int (0 : Int32)), .val (.int (0 : Int32)), .val .null, .unset] [(.int (0 : Int32))])) (fun _ kk => XS.iloadN X7.here hx rfl (hb hby dsv_4) rfl kk) ?_
  refine own_step (T' := T7) (g' := (mkF m 8 #[.val (.ref a1), .val (.ref b2), .val (.int (0 : Int32)), .val (.int (0 : Int32)), .val .null, .unset] [])) (fun _ kk => XS.ifNo X7.here hx rfl (hb hby dsv_5) rfl ((if0 _ _).trans (teq rfl).2) kk) ?_
  refine own_step (T' := T7) (g' := (mkF m 9 #[.val (.ref a1), .val (.ref b2), .val (.int (0 : Int32)), .val (.int (0 : Int32)), .val .null, .unset] [(.ref a1)])) (fun _ kk => XS.aloadN X7.here hx rfl (hb hby dsv_8) rfl rfl kk) ?_
  obtain ⟨sa8, T8, h8, k18, sb8, kb8, X8, e8, E8, hS8, hk8, hZ8, ho8, Ex8, Co8, Va8, Ar8, la8, lb8, hC8, Li8, hne8, st8⟩ := ldcCH X7 hx hZ hown (w22 hw) (own_strAtoms hw) e7 hS0 (Nat.zero_le _) (own_EW hw) (by decide) hJ.1 (vs := []) (z := 0) ⟨by decide, rfl⟩ (by decide) (by decide) (g := (mkF m 9 #[.val (.ref a1), .val (.ref b2), .val (.int (0 : Int32)), .val (.int (0 : Int32)), .val .null, .unset] [(.ref a1)])) rfl (hb hby dsv_9) (n := 0) (by decide) (by decide) (by decide) (by decide)
  have ns9 := hne8 _ (CHr.safe hC8 O1.lt hJ.2)
  have F10 := O1.ext E8
  have F11 := Nat.le_trans (Nat.zero_le _) E8.1
  have F12 := O0.ext E8
  have F13 := F6.ext E8
  refine own_step (T' := T8) (g' := (mkF m 11 #[.val (.ref a1), .val (.ref b2), .val (.int (0 : Int32)), .val (.int (0 : Int32)), .val .null, .unset] [(.ref sa8), (.ref a1)])) (fun _ kk => st8 _ kk) ?_
  obtain ⟨T14, X14, e14, st14⟩ := getF X8 hx hZ8 ho8 (host := "") (Or.inl (w28 hw)) Via.refl e8 Va8 (g := (mkF m 11 #[.val (.ref a1), .val (.ref b2), .val (.int (0 : Int32)), .val (.int (0 : Int32)), .val .null, .unset] [(.ref sa8), (.ref a1)])) rfl rfl (hb hby dsv_11)
  refine own_step (T' := T14) (g' := (mkF m 14 #[.val (.ref a1), .val (.ref b2), .val (.int (0 : Int32)), .val (.int (0 : Int32)), .val .null, .unset] [(.ref sb8), (.ref a1)])) (fun _ kk => st14 _ kk) ?_
  obtain ⟨u15, Fu15⟩ := F10.fld (w10 hw) (Or.inr (w24 hw) : Laid Z a0 "java/lang/String" "java/lang/String" "value" "[B")
  obtain ⟨T15, h15, X15, e15, W15, st15⟩ := putF X14 hx hZ8 ho8 (host := "") (Or.inl (w28 hw)) Via.refl e14 Fu15 F10.1 (Or.inr ⟨(w24 hw), rfl, hnm⟩) (w10 hw) (ty := (.array .byte)) (by decide) rfl rfl (g := (mkF m 14 #[.val (.ref a1), .val (.ref b2), .val (.int (0 : Int32)), .val (.int (0 : Int32)), .val .null, .unset] [(.ref sb8), (.ref a1)])) rfl rfl (hb hby dsv_14)
  have F16 := Fr.snoc X15 F4 g1
  have F17 := F10.wr W15
  have F18 := Co8.other W15 (Or.inl (Ne.symm ns9.1))
  have F19 := Va8.other W15 (Or.inl (Ne.symm ns9.1))
  have F20 := Ar8.other W15 (Ne.symm ns9.2)
  have F21 := (Nat.le_trans hk8 (Nat.le_of_eq (Wr.size W15).symm))
  have F22 := F12.wr W15 g1
  have F23 := F13.wr W15 (Or.inl (List.mem_of_getElem? (i := 0) rfl))
  have F24 : Fld Z h15 a1 "java/lang/String" "value" "[B" (.ref sb8) := Fu15.same W15
  refine own_step (T' := T15) (g' := (mkF m 17 #[.val (.ref a1), .val (.ref b2), .val (.int (0 : Int32)), .val (.int (0 : Int32)), .val .null, .unset] [])) (fun _ kk => st15 _ kk) ?_
  refine own_step (T' := T15) (g' := (mkF m 18 #[.val (.ref a1), .val (.ref b2), .val (.int (0 : Int32)), .val (.int (0 : Int32)), .val .null, .unset] [(.ref a1)])) (fun _ kk => XS.aloadN X15.here hx rfl (hb hby dsv_17) rfl rfl kk) ?_
  refine own_step (T' := T15) (g' := (mkF m 20 #[.val (.ref a1), .val (.ref b2), .val (.int (0 : Int32)), .val (.int (0 : Int32)), .val .null, .unset] [(.ref sa8), (.ref a1)])) (fun _ kk => ldcAgain X15 hx hZ8 ho8 (w22 hw) Li8 (g := (mkF m 18 #[.val (.ref a1), .val (.ref b2), .val (.int (0 : Int32)), .val (.int (0 : Int32)), .val .null, .unset] [(.ref a1)])) rfl (hb hby dsv_18) _ kk) ?_
  obtain ⟨T25, X25, e25, st25⟩ := getF X15 hx hZ8 ho8 (host := "") (Or.inl (w29 hw)) Via.refl e15 F18 (g := (mkF m 20 #[.val (.ref a1), .val (.ref b2), .val (.int (0 : Int32)), .val (.int (0 : Int32)), .val .null, .unset] [(.ref sa8), (.ref a1)])) rfl rfl (hb hby dsv_20)
  refine own_step (T' := T25) (g' := (mkF m 23 #[.val (.ref a1), .val (.ref b2), .val (.int (0 : Int32)), .val (.int (0 : Int32)), .val .null, .unset] [(.int 0), (.ref a1)])) (fun _ kk => st25 _ kk) ?_
  obtain ⟨u26, Fu26⟩ := F17.fld (w10 hw) (Or.inr (w25 hw) : Laid Z a0 "java/lang/String" "java/lang/String" "coder" "B")
  obtain ⟨T26, h26, X26, e26, W26, st26⟩ := putF X25 hx hZ8 ho8 (host := "") (Or.inl (w29 hw)) Via.refl e25 Fu26 F17.1 (Or.inr ⟨(w25 hw), rfl, hnm⟩) (w10 hw) (ty := .byte) (by decide) rfl rfl (g := (mkF m 23 #[.val (.ref a1), .val (.ref b2), .val (.int (0 : Int32)), .val (.int (0 : Int32)), .val .null, .unset] [(.int 0), (.ref a1)])) rfl rfl (hb hby dsv_23)
  have F27 := Fr.snoc X26 F16 g1
  have F28 := F17.wr W26
  have F29 := F18.other W26 (Or.inl (Ne.symm ns9.1))
  have F30 := F19.other W26 (Or.inl (Ne.symm ns9.1))
  have F31 := F20.other W26 (Ne.symm ns9.2)
  have F32 := F24.other W26 (Or.inr (slot_ne (Or.inr (w24 hw) : Laid Z a0 "java/lang/String" "java/lang/String" "value" "[B") (Or.inr (w25 hw) : Laid Z a0 "java/lang/String" "java/lang/String" "coder" "B") (by decide) (t := (.array .byte)) (t' := .byte) (by decide) (by decide)))
  have F33 := (Nat.le_trans F21 (Nat.le_of_eq (Wr.size W26).symm))
  have F34 := F22.wr W26 g1
  have F35 := F23.wr W26 (Or.inl (List.mem_of_getElem? (i := 0) rfl))
  have F36 : Fld Z h26 a1 "java/lang/String" "coder" "B" (.int 0) := Fu26.same W26
  refine own_step (T' := T26) (g' := (mkF m 26 #[.val (.ref a1), .val (.ref b2), .val (.int (0 : Int32)), .val (.int (0 : Int32)), .val .null, .unset] [])) (fun _ kk => st26 _ kk) ?_
  exact own_retVW X26 hx hS8 F33 hlk hret (hb hby dsv_26) e26 ⟨rfl, F27, F35, _, _, F28.1, F36, F32, F31⟩ (by decide) (by decide)
theorem dsc_0 : decode jdk_42_method_3_code 0 = .ok (.aload_n 0, 1) := by decide +kernel
theorem dsc_1 : decode jdk_42_method_3_code 1 = .ok (.aload_n 1, 1) := by decide +kernel
theorem dsc_2 : decode jdk_42_method_3_code 2 = .ok (.iconst 0, 1) := by decide +kernel
theorem dsc_3 : decode jdk_42_method_3_code 3 = .ok (.aload_n 1, 1) := by decide +kernel
theorem dsc_4 : decode jdk_42_method_3_code 4 = .ok (.arraylength, 1) := by decide +kernel
theorem dsc_5 : decode jdk_42_method_3_code 5 = .ok (.aconst_null, 1) := by decide +kernel
theorem dsc_6 : decode jdk_42_method_3_code 6 = .ok (.invokespecial 27, 3) := by decide +kernel
theorem dsc_9 : decode jdk_42_method_3_code 9 = .ok (.return_, 1) := by decide +kernel
set_option maxRecDepth 65536 in
set_option maxHeartbeats 40000000 in
theorem rm_sc (l : Launch) (Z : State) (a0 : Array Value) (hw : ∀ d ∈ tables_1, d.before a0 Z = true) (a1 b2 : Addr) (kc : ClassId) (h0 : Heap) (O0 : Old Z Z.heap.size h0) (O1 : own_Obj Z h0 a1 "java/lang/String") (g1 : Z.heap.size ≤ a1) (A2 : Arv Z h0 b2 kc .char (0 : Int32) [] (.int 0)) :
    own_ConW l Z (fun vm => CHv Z consts_1 vm h0 ∧ Safe Z consts_1 vm h0 a1) (⟨"java/lang/String", "<init>", "([C)V"⟩ : MethodName) jdk_42_method_3_code 2 none ({ frames := 2, cells := 2, slots := 4, locals := 29 } : Room) #[(.ref a1), (.ref b2)] h0 (fun v h L => v = none ∧ Fr Z.heap.size L ∧ Keep h0 h [a1] ∧ own_Str Z h a1 []) := by
  refine own_conW (ls := #[.val (.ref a1), .val (.ref b2)]) (pn_java_lang_String) (fun m => by first | (simp [entryFrame, mkF, argsToLocals, Value.category]; done) | rfl) ?_
  intro p e s m below meth c s₁ hx hby hml0 hown0 hnm0 hret0 hlk hZ X0 e0 hS0 hJ
  have hml : c.maxLocals = 2 := hml0
  have hown : s.vm.findClass "java/lang/String" = some m.cls := hown0
  have hnm : meth.name = "<init>" := hnm0
  have hret : meth.sig.returnType = none := hret0
  have F37 := Fr.nil Z.heap.size
  have F38 := Keep.refl h0 []
  have F39 := Keep.refl h0 [a1]
  refine own_step (T' := s₁) (g' := (mkF m 1 #[.val (.ref a1), .val (.ref b2)] [(.ref a1)])) (fun _ kk => XS.aloadN X0.here hx rfl (hb hby dsc_0) rfl rfl kk) ?_
  refine own_step (T' := s₁) (g' := (mkF m 2 #[.val (.ref a1), .val (.ref b2)] [(.ref b2), (.ref a1)])) (fun _ kk => XS.aloadN X0.here hx rfl (hb hby dsc_1) rfl rfl kk) ?_
  refine own_step (T' := s₁) (g' := (mkF m 3 #[.val (.ref a1), .val (.ref b2)] [(.int (0 : Int32)), (.ref b2), (.ref a1)])) (fun _ kk => XS.iconst X0.here hx rfl (hb hby dsc_2) kk) ?_
  refine own_step (T' := s₁) (g' := (mkF m 4 #[.val (.ref a1), .val (.ref b2)] [(.ref b2), (.int (0 : Int32)), (.ref b2), (.ref a1)])) (fun _ kk => XS.aloadN X0.here hx rfl (hb hby dsc_3) rfl rfl kk) ?_
  refine own_step (T' := s₁) (g' := (mkF m 5 #[.val (.ref a1), .val (.ref b2)] [(.int (0 : Int32)), (.int (0 : Int32)), (.ref b2), (.ref a1)])) (fun _ kk => own_alen X0 hx hZ e0 A2 (g := (mkF m 4 #[.val (.ref a1), .val (.ref b2)] [(.ref b2), (.int (0 : Int32)), (.ref b2), (.ref a1)])) rfl rfl (hb hby dsc_4) _ kk) ?_
  refine own_step (T' := s₁) (g' := (mkF m 6 #[.val (.ref a1), .val (.ref b2)] [.null, (.int (0 : Int32)), (.int (0 : Int32)), (.ref b2), (.ref a1)])) (fun _ kk => XS.aconstNull X0.here hx rfl (hb hby dsc_5) kk) ?_
  obtain ⟨T40, L40, _, h40, X40, e40, hS40, hZ40, ho40, ⟨rfl, Nq, Kq, Sq⟩, st40⟩ := own_callCW X0 hx hZ hown hS0 (Nat.zero_le _) rfl (w15 hw) (w16 hw) (w18 hw) (w11 hw) (by decide) (a := a1) (g := (mkF m 6 #[.val (.ref a1), .val (.ref b2)] [.null, (.int (0 : Int32)), (.int (0 : Int32)), (.ref b2), (.ref a1)])) rfl (by rw [hml]; rfl) (argsL := [(.ref b2), (.int (0 : Int32)), (.int (0 : Int32)), .null]) (rest := []) (rm_sv l Z a0 hw a1 b2 _ O0 O1 g1) (fun m meth c A Y => ⟨(CHv.at Y hZ (own_EW hw) hJ.1).1, (CHv.at Y hZ (own_EW hw) hJ.1).safe O1.lt hJ.2⟩) e0 pd___CIILjava_lang_Void__V rfl rfl (W := 0) (by show 2 * 0 + _ ≤ _; exact Nat.le_of_eq rfl) (hb hby dsc_6) (by decide) (by decide) (by decide) (by decide)
  have F41 := Fr.app F37 Nq
  have F42 := Nat.le_trans (Nat.zero_le _) Kq.1
  have F43 := O0.keep Kq (allS g1 all0)
  have F44 := F39.trans Kq (allS (Or.inl (List.mem_of_getElem? (i := 0) rfl)) all0)
  refine own_step (T' := T40) (g' := (mkF m 9 #[.val (.ref a1), .val (.ref b2)] [])) (fun _ kk => st40 _ kk) ?_
  exact own_retVW X40 hx hS40 (Nat.le_refl _) hlk hret (hb hby dsc_9) e40 ⟨rfl, F41, F44, Sq⟩ (by decide) (by decide)
theorem dmake_0 : decode method_3_code 0 = .ok (.iload_n 0, 1) := by decide +kernel
theorem dmake_1 : decode method_3_code 1 = .ok (.ifCond .ne 14, 3) := by decide +kernel
theorem dmake_4 : decode method_3_code 4 = .ok (.new 7, 3) := by decide +kernel
theorem dmake_7 : decode method_3_code 7 = .ok (.dup, 1) := by decide +kernel
theorem dmake_8 : decode method_3_code 8 = .ok (.iconst 0, 1) := by decide +kernel
theorem dmake_9 : decode method_3_code 9 = .ok (.newarray .char, 2) := by decide +kernel
theorem dmake_11 : decode method_3_code 11 = .ok (.invokespecial 9, 3) := by decide +kernel
theorem dmake_14 : decode method_3_code 14 = .ok (.areturn, 1) := by decide +kernel
theorem dmake_15 : decode method_3_code 15 = .ok (.iload_n 0, 1) := by decide +kernel
theorem dmake_16 : decode method_3_code 16 = .ok (.iconst 1, 1) := by decide +kernel
theorem dmake_17 : decode method_3_code 17 = .ok (.if_icmp .ne 18, 3) := by decide +kernel
theorem dmake_20 : decode method_3_code 20 = .ok (.new 7, 3) := by decide +kernel
theorem dmake_23 : decode method_3_code 23 = .ok (.dup, 1) := by decide +kernel
theorem dmake_24 : decode method_3_code 24 = .ok (.iconst 1, 1) := by decide +kernel
theorem dmake_25 : decode method_3_code 25 = .ok (.newarray .char, 2) := by decide +kernel
theorem dmake_27 : decode method_3_code 27 = .ok (.dup, 1) := by decide +kernel
theorem dmake_28 : decode method_3_code 28 = .ok (.iconst 0, 1) := by decide +kernel
theorem dmake_29 : decode method_3_code 29 = .ok (.iload_n 1, 1) := by decide +kernel
theorem dmake_30 : decode method_3_code 30 = .ok (.castore, 1) := by decide +kernel
theorem dmake_31 : decode method_3_code 31 = .ok (.invokespecial 9, 3) := by decide +kernel
theorem dmake_34 : decode method_3_code 34 = .ok (.areturn, 1) := by decide +kernel
theorem dmake_35 : decode method_3_code 35 = .ok (.iload_n 0, 1) := by decide +kernel
theorem dmake_36 : decode method_3_code 36 = .ok (.iconst 2, 1) := by decide +kernel
theorem dmake_37 : decode method_3_code 37 = .ok (.if_icmp .ne 22, 3) := by decide +kernel
theorem dmake_40 : decode method_3_code 40 = .ok (.new 7, 3) := by decide +kernel
theorem dmake_43 : decode method_3_code 43 = .ok (.dup, 1) := by decide +kernel
theorem dmake_44 : decode method_3_code 44 = .ok (.iconst 2, 1) := by decide +kernel
theorem dmake_45 : decode method_3_code 45 = .ok (.newarray .char, 2) := by decide +kernel
theorem dmake_47 : decode method_3_code 47 = .ok (.dup, 1) := by decide +kernel
theorem dmake_48 : decode method_3_code 48 = .ok (.iconst 0, 1) := by decide +kernel
theorem dmake_49 : decode method_3_code 49 = .ok (.iload_n 1, 1) := by decide +kernel
theorem dmake_50 : decode method_3_code 50 = .ok (.castore, 1) := by decide +kernel
theorem dmake_51 : decode method_3_code 51 = .ok (.dup, 1) := by decide +kernel
theorem dmake_52 : decode method_3_code 52 = .ok (.iconst 1, 1) := by decide +kernel
theorem dmake_53 : decode method_3_code 53 = .ok (.iload_n 2, 1) := by decide +kernel
theorem dmake_54 : decode method_3_code 54 = .ok (.castore, 1) := by decide +kernel
theorem dmake_55 : decode method_3_code 55 = .ok (.invokespecial 9, 3) := by decide +kernel
theorem dmake_58 : decode method_3_code 58 = .ok (.areturn, 1) := by decide +kernel
theorem dmake_59 : decode method_3_code 59 = .ok (.iload_n 0, 1) := by decide +kernel
theorem dmake_60 : decode method_3_code 60 = .ok (.iconst 3, 1) := by decide +kernel
theorem dmake_61 : decode method_3_code 61 = .ok (.if_icmp .ne 26, 3) := by decide +kernel
theorem dmake_64 : decode method_3_code 64 = .ok (.new 7, 3) := by decide +kernel
theorem dmake_67 : decode method_3_code 67 = .ok (.dup, 1) := by decide +kernel
theorem dmake_68 : decode method_3_code 68 = .ok (.iconst 3, 1) := by decide +kernel
theorem dmake_69 : decode method_3_code 69 = .ok (.newarray .char, 2) := by decide +kernel
theorem dmake_71 : decode method_3_code 71 = .ok (.dup, 1) := by decide +kernel
theorem dmake_72 : decode method_3_code 72 = .ok (.iconst 0, 1) := by decide +kernel
theorem dmake_73 : decode method_3_code 73 = .ok (.iload_n 1, 1) := by decide +kernel
theorem dmake_74 : decode method_3_code 74 = .ok (.castore, 1) := by decide +kernel
theorem dmake_75 : decode method_3_code 75 = .ok (.dup, 1) := by decide +kernel
theorem dmake_76 : decode method_3_code 76 = .ok (.iconst 1, 1) := by decide +kernel
theorem dmake_77 : decode method_3_code 77 = .ok (.iload_n 2, 1) := by decide +kernel
theorem dmake_78 : decode method_3_code 78 = .ok (.castore, 1) := by decide +kernel
theorem dmake_79 : decode method_3_code 79 = .ok (.dup, 1) := by decide +kernel
theorem dmake_80 : decode method_3_code 80 = .ok (.iconst 2, 1) := by decide +kernel
theorem dmake_81 : decode method_3_code 81 = .ok (.iload_n 3, 1) := by decide +kernel
theorem dmake_82 : decode method_3_code 82 = .ok (.castore, 1) := by decide +kernel
theorem dmake_83 : decode method_3_code 83 = .ok (.invokespecial 9, 3) := by decide +kernel
theorem dmake_86 : decode method_3_code 86 = .ok (.areturn, 1) := by decide +kernel
theorem dmake_87 : decode method_3_code 87 = .ok (.new 7, 3) := by decide +kernel
theorem dmake_90 : decode method_3_code 90 = .ok (.dup, 1) := by decide +kernel
theorem dmake_91 : decode method_3_code 91 = .ok (.iconst 4, 1) := by decide +kernel
theorem dmake_92 : decode method_3_code 92 = .ok (.newarray .char, 2) := by decide +kernel
theorem dmake_94 : decode method_3_code 94 = .ok (.dup, 1) := by decide +kernel
theorem dmake_95 : decode method_3_code 95 = .ok (.iconst 0, 1) := by decide +kernel
theorem dmake_96 : decode method_3_code 96 = .ok (.iload_n 1, 1) := by decide +kernel
theorem dmake_97 : decode method_3_code 97 = .ok (.castore, 1) := by decide +kernel
theorem dmake_98 : decode method_3_code 98 = .ok (.dup, 1) := by decide +kernel
theorem dmake_99 : decode method_3_code 99 = .ok (.iconst 1, 1) := by decide +kernel
theorem dmake_100 : decode method_3_code 100 = .ok (.iload_n 2, 1) := by decide +kernel
theorem dmake_101 : decode method_3_code 101 = .ok (.castore, 1) := by decide +kernel
theorem dmake_102 : decode method_3_code 102 = .ok (.dup, 1) := by decide +kernel
theorem dmake_103 : decode method_3_code 103 = .ok (.iconst 2, 1) := by decide +kernel
theorem dmake_104 : decode method_3_code 104 = .ok (.iload_n 3, 1) := by decide +kernel
theorem dmake_105 : decode method_3_code 105 = .ok (.castore, 1) := by decide +kernel
theorem dmake_106 : decode method_3_code 106 = .ok (.dup, 1) := by decide +kernel
theorem dmake_107 : decode method_3_code 107 = .ok (.iconst 3, 1) := by decide +kernel
theorem dmake_108 : decode method_3_code 108 = .ok (.iload 4, 2) := by decide +kernel
theorem dmake_110 : decode method_3_code 110 = .ok (.castore, 1) := by decide +kernel
theorem dmake_111 : decode method_3_code 111 = .ok (.invokespecial 9, 3) := by decide +kernel
theorem dmake_114 : decode method_3_code 114 = .ok (.areturn, 1) := by decide +kernel
set_option maxRecDepth 65536 in
set_option maxHeartbeats 40000000 in
theorem rm_make (l : Launch) (Z : State) (a0 : Array Value) (hw : ∀ d ∈ tables_1, d.before a0 Z = true) (n : Nat) (p0 c0 c1 c2 c3 zc : Int32) (h0 : Heap) (O0 : Old Z Z.heap.size h0) (hp0 : p0 = Int32.ofNat n) (hn4 : n ≤ 4) (SC : Sta Z Z.heap "java/lang/String" "COMPACT_STRINGS" "Z" (.int zc)) (hzc : ¬ zc = (0 : Int32)) (b0 : 0 ≤ c0.toInt ∧ c0.toInt ≤ 255) (b1 : 0 ≤ c1.toInt ∧ c1.toInt ≤ 255) (b2 : 0 ≤ c2.toInt ∧ c2.toInt ≤ 255) (b3 : 0 ≤ c3.toInt ∧ c3.toInt ≤ 255) (hB : own_B [c0, c1, c2, c3]) :
    own_ConW l Z (fun vm => CHv Z consts_1 vm h0) (⟨"com/example/idemkey/idemkey/key/StructuredFieldStringSkipSpacesPinLaw", "make", "(ICCCC)Ljava/lang/String;"⟩ : MethodName) method_3_code 5 (some (.object "java/lang/String")) ({ frames := 4, cells := 4, slots := 12, locals := 66 } : Room) #[(.int p0), (.int c0), (.int c1), (.int c2), (.int c3)] h0 (fun v h L => ∃ a, v = some (.ref a) ∧ Fr Z.heap.size L ∧ Keep h0 h [] ∧ own_Str Z h a ([c0, c1, c2, c3].take n)) := by
  refine own_conW (ls := #[.val (.int p0), .val (.int c0), .val (.int c1), .val (.int c2), .val (.int c3)]) (pn_com_example_idemkey_idemkey_key_StructuredFieldStringSkipSpacesPinLaw) (fun m => by first | (simp [entryFrame, mkF, argsToLocals, Value.category]; done) | rfl) ?_
  intro p e s m below meth c s₁ hx hby hml0 hown0 hnm0 hret0 hlk hZ X0 e0 hS0 hJ
  have hml : c.maxLocals = 5 := hml0
  have hown : s.vm.findClass "com/example/idemkey/idemkey/key/StructuredFieldStringSkipSpacesPinLaw" = some m.cls := hown0
  have hnm : meth.name = "make" := hnm0
  have hret : meth.sig.returnType = (some (.object "java/lang/String")) := hret0
  have F45 := Fr.nil Z.heap.size
  have F46 := Keep.refl h0 []
  subst hp0
  refine own_step (T' := s₁) (g' := (mkF m 1 #[.val (.int (Int32.ofNat n)), .val (.int c0), .val (.int c1), .val (.int c2), .val (.int c3)] [(.int (Int32.ofNat n))])) (fun _ kk => XS.iloadN X0.here hx rfl (hb hby dmake_0) rfl kk) ?_
  by_cases c47 : (Int32.ofNat n) = (0 : Int32)
  · refine own_step (T' := s₁) (g' := (mkF m 4 #[.val (.int (Int32.ofNat n)), .val (.int c0), .val (.int c1), .val (.int c2), .val (.int c3)] [])) (fun _ kk => XS.ifNo X0.here hx rfl (hb hby dmake_1) rfl ((if0 _ _).trans (teq c47).2) kk) ?_
    obtain rfl : n = 0 := own_natne (by omega) (by omega) c47
    obtain ⟨T49, h49, X49, e49, E49, A49, D49, U49, st49⟩ := newO X0 hx hZ hown (w9 hw) (w10 hw) (w11 hw) e0 (g := (mkF m 4 #[.val (.int (Int32.ofNat 0)), .val (.int c0), .val (.int c1), .val (.int c2), .val (.int c3)] [])) rfl (hb hby dmake_4) (by decide) (by decide)
    obtain ⟨a48, g49⟩ : ∃ z, z = h0.size := ⟨_, rfl⟩
    rw [← g49] at A49 D49 U49 st49
    have ge50 : Z.heap.size ≤ a48 := by rw [g49]; exact O0.2.1
    have ng51 : h0.size ≤ a48 := by rw [g49]; exact F46.1
    have F52 := CHv.ext E49 hJ
    have F53 := Nat.le_trans (Nat.zero_le _) E49.1
    have F54 := O0.ext E49
    have F55 := F46.ext E49
    have F56 := Safe.ext E49 hJ (Safe.new (Nat.le_of_eq g49.symm))
    have F57 : own_Obj Z h49 a48 "java/lang/String" := own_Obj.new A49 U49
    refine own_step (T' := T49) (g' := (mkF m 7 #[.val (.int (Int32.ofNat 0)), .val (.int c0), .val (.int c1), .val (.int c2), .val (.int c3)] [(.ref a48)])) (fun _ kk => st49 _ kk) ?_
    refine own_step (T' := T49) (g' := (mkF m 8 #[.val (.int (Int32.ofNat 0)), .val (.int c0), .val (.int c1), .val (.int c2), .val (.int c3)] [(.ref a48), (.ref a48)])) (fun _ kk => XS.dup X49.here hx rfl (hb hby dmake_7) rfl rfl kk) ?_
    refine own_step (T' := T49) (g' := (mkF m 9 #[.val (.int (Int32.ofNat 0)), .val (.int c0), .val (.int c1), .val (.int c2), .val (.int c3)] [(.int (0 : Int32)), (.ref a48), (.ref a48)])) (fun _ kk => XS.iconst X49.here hx rfl (hb hby dmake_8) kk) ?_
    obtain ⟨T59, h59, cA59, X59, e59, E59, A59, st59⟩ := newP X49 hx hZ (aty := .char) (w5 hw) e49 (g := (mkF m 9 #[.val (.int (Int32.ofNat 0)), .val (.int c0), .val (.int c1), .val (.int c2), .val (.int c3)] [(.int (0 : Int32)), (.ref a48), (.ref a48)])) rfl (hb hby dmake_9) rfl (by decide) (cap := 0) (by decide) (by decide) (by decide) (by decide)
    obtain ⟨a58, g59⟩ : ∃ z, z = h49.size := ⟨_, rfl⟩
    rw [← g59] at A59 st59
    have ne60 : a48 ≠ a58 := Nat.ne_of_lt (by rw [g59]; exact F57.lt)
    have ge61 : Z.heap.size ≤ a58 := by rw [g59]; exact F54.2.1
    have ng62 : h0.size ≤ a58 := by rw [g59]; exact F55.1
    have F63 := Safe.ext E59 F52 F56
    have F64 := F57.ext E59
    have F65 := CHv.ext E59 F52
    have F66 := Nat.le_trans F53 E59.1
    have F67 := F54.ext E59
    have F68 := F55.ext E59
    have F69 := Safe.ext E59 F52 (Safe.new (Nat.le_of_eq g59.symm))
    have F70 : Arv Z h59 a58 cA59 .char (0 : Int32) [] (.int 0) := Arv.new A59 (by decide)
    refine own_step (T' := T59) (g' := (mkF m 11 #[.val (.int (Int32.ofNat 0)), .val (.int c0), .val (.int c1), .val (.int c2), .val (.int c3)] [(.ref a58), (.ref a48), (.ref a48)])) (fun _ kk => st59 _ kk) ?_
    obtain ⟨T71, L71, _, h71, X71, e71, hS71, hZ71, ho71, ⟨rfl, Nqa48, Kqa48, Sqa48⟩, st71⟩ := own_callCW X59 hx hZ hown hS0 F66 rfl (w12 hw) (w13 hw) (w14 hw) (w11 hw) (by decide) (a := a48) (g := (mkF m 11 #[.val (.int (Int32.ofNat 0)), .val (.int c0), .val (.int c1), .val (.int c2), .val (.int c3)] [(.ref a58), (.ref a48), (.ref a48)])) rfl (by rw [hml]; rfl) (argsL := [(.ref a58)]) (rest := [(.ref a48)]) (rm_sc l Z a0 hw a48 a58 cA59 _ F67 F64 ge50 F70) (fun m meth c A Y => ⟨(CHv.at Y hZ (own_EW hw) F65).1, (CHv.at Y hZ (own_EW hw) F65).safe F64.lt F63⟩) e59 pd___C_V rfl rfl (W := 1) (by show 2 * 0 + _ ≤ _; exact Nat.le_of_eq rfl) (hb hby dmake_11) (by decide) (by decide) (by decide) (by decide)
    have F72 := Fr.app F45 Nqa48
    have F73 := F64.keep Kqa48
    have F74 := F70.keep Kqa48 (ninS (Ne.symm ne60) nin0)
    have F75 := Nat.le_trans F66 Kqa48.1
    have F76 := F67.keep Kqa48 (allS ge50 all0)
    have F77 := F68.trans Kqa48 (allS (Or.inr ng51) all0)
    refine own_step (T' := T71) (g' := (mkF m 14 #[.val (.int (Int32.ofNat 0)), .val (.int c0), .val (.int c1), .val (.int c2), .val (.int c3)] [(.ref a48)])) (fun _ kk => st71 _ kk) ?_
    exact own_retAW X71 hx hS71 (Nat.le_refl _) hlk (t := (.object "java/lang/String")) hret rfl rfl rfl (hb hby dmake_14) e71 ⟨_, rfl, F72, F77, Sqa48⟩ (by decide) (by decide)
  · refine own_step (T' := s₁) (g' := (mkF m 15 #[.val (.int (Int32.ofNat n)), .val (.int c0), .val (.int c1), .val (.int c2), .val (.int c3)] [])) (fun _ kk => XS.ifYes X0.here hx rfl (pc0 := 1) (pc' := 15) rfl (hb hby dmake_1) rfl ((if0 _ _).trans (feq c47).2) (by decide) (by decide) kk) ?_
    refine own_step (T' := s₁) (g' := (mkF m 16 #[.val (.int (Int32.ofNat n)), .val (.int c0), .val (.int c1), .val (.int c2), .val (.int c3)] [(.int (Int32.ofNat n))])) (fun _ kk => XS.iloadN X0.here hx rfl (hb hby dmake_15) rfl kk) ?_
    refine own_step (T' := s₁) (g' := (mkF m 17 #[.val (.int (Int32.ofNat n)), .val (.int c0), .val (.int c1), .val (.int c2), .val (.int c3)] [(.int (1 : Int32)), (.int (Int32.ofNat n))])) (fun _ kk => XS.iconst X0.here hx rfl (hb hby dmake_16) kk) ?_
    by_cases c78 : (Int32.ofNat n) = (1 : Int32)
    · refine own_step (T' := s₁) (g' := (mkF m 20 #[.val (.int (Int32.ofNat n)), .val (.int c0), .val (.int c1), .val (.int c2), .val (.int c3)] [])) (fun _ kk => XS.icmpNo X0.here hx rfl (hb hby dmake_17) rfl (teq c78).2 kk) ?_
      obtain rfl : n = 1 := own_natne (by omega) (by omega) c78
      obtain ⟨T80, h80, X80, e80, E80, A80, D80, U80, st80⟩ := newO X0 hx hZ hown (w9 hw) (w10 hw) (w11 hw) e0 (g := (mkF m 20 #[.val (.int (Int32.ofNat 1)), .val (.int c0), .val (.int c1), .val (.int c2), .val (.int c3)] [])) rfl (hb hby dmake_20) (by decide) (by decide)
      obtain ⟨a79, g80⟩ : ∃ z, z = h0.size := ⟨_, rfl⟩
      rw [← g80] at A80 D80 U80 st80
      have ge81 : Z.heap.size ≤ a79 := by rw [g80]; exact O0.2.1
      have ng82 : h0.size ≤ a79 := by rw [g80]; exact F46.1
      have F83 := CHv.ext E80 hJ
      have F84 := Nat.le_trans (Nat.zero_le _) E80.1
      have F85 := O0.ext E80
      have F86 := F46.ext E80
      have F87 := Safe.ext E80 hJ (Safe.new (Nat.le_of_eq g80.symm))
      have F88 : own_Obj Z h80 a79 "java/lang/String" := own_Obj.new A80 U80
      refine own_step (T' := T80) (g' := (mkF m 23 #[.val (.int (Int32.ofNat 1)), .val (.int c0), .val (.int c1), .val (.int c2), .val (.int c3)] [(.ref a79)])) (fun _ kk => st80 _ kk) ?_
      refine own_step (T' := T80) (g' := (mkF m 24 #[.val (.int (Int32.ofNat 1)), .val (.int c0), .val (.int c1), .val (.int c2), .val (.int c3)] [(.ref a79), (.ref a79)])) (fun _ kk => XS.dup X80.here hx rfl (hb hby dmake_23) rfl rfl kk) ?_
      refine own_step (T' := T80) (g' := (mkF m 25 #[.val (.int (Int32.ofNat 1)), .val (.int c0), .val (.int c1), .val (.int c2), .val (.int c3)] [(.int (1 : Int32)), (.ref a79), (.ref a79)])) (fun _ kk => XS.iconst X80.here hx rfl (hb hby dmake_24) kk) ?_
      obtain ⟨T90, h90, cA90, X90, e90, E90, A90, st90⟩ := newP X80 hx hZ (aty := .char) (w5 hw) e80 (g := (mkF m 25 #[.val (.int (Int32.ofNat 1)), .val (.int c0), .val (.int c1), .val (.int c2), .val (.int c3)] [(.int (1 : Int32)), (.ref a79), (.ref a79)])) rfl (hb hby dmake_25) rfl (by decide) (cap := 1) (by decide) (by decide) (by decide) (by decide)
      obtain ⟨a89, g90⟩ : ∃ z, z = h80.size := ⟨_, rfl⟩
      rw [← g90] at A90 st90
      have ne91 : a79 ≠ a89 := Nat.ne_of_lt (by rw [g90]; exact F88.lt)
      have ge92 : Z.heap.size ≤ a89 := by rw [g90]; exact F85.2.1
      have ng93 : h0.size ≤ a89 := by rw [g90]; exact F86.1
      have F94 := Safe.ext E90 F83 F87
      have F95 := F88.ext E90
      have F96 := CHv.ext E90 F83
      have F97 := Nat.le_trans F84 E90.1
      have F98 := F85.ext E90
      have F99 := F86.ext E90
      have F100 := Safe.ext E90 F83 (Safe.new (Nat.le_of_eq g90.symm))
      have F101 : Arv Z h90 a89 cA90 .char (1 : Int32) [] (.int 0) := Arv.new A90 (by decide)
      refine own_step (T' := T90) (g' := (mkF m 27 #[.val (.int (Int32.ofNat 1)), .val (.int c0), .val (.int c1), .val (.int c2), .val (.int c3)] [(.ref a89), (.ref a79), (.ref a79)])) (fun _ kk => st90 _ kk) ?_
      have F102 : Arv Z h90 a89 cA90 .char (1 : Int32) [(.int 0)] (.int 0) := Arv.pad F101 (pad_rep [] (.int 0) 1)
      refine own_step (T' := T90) (g' := (mkF m 28 #[.val (.int (Int32.ofNat 1)), .val (.int c0), .val (.int c1), .val (.int c2), .val (.int c3)] [(.ref a89), (.ref a89), (.ref a79), (.ref a79)])) (fun _ kk => XS.dup X90.here hx rfl (hb hby dmake_27) rfl rfl kk) ?_
      refine own_step (T' := T90) (g' := (mkF m 29 #[.val (.int (Int32.ofNat 1)), .val (.int c0), .val (.int c1), .val (.int c2), .val (.int c3)] [(.int (0 : Int32)), (.ref a89), (.ref a89), (.ref a79), (.ref a79)])) (fun _ kk => XS.iconst X90.here hx rfl (hb hby dmake_28) kk) ?_
      refine own_step (T' := T90) (g' := (mkF m 30 #[.val (.int (Int32.ofNat 1)), .val (.int c0), .val (.int c1), .val (.int c2), .val (.int c3)] [(.int c0), (.int (0 : Int32)), (.ref a89), (.ref a89), (.ref a79), (.ref a79)])) (fun _ kk => XS.iloadN X90.here hx rfl (hb hby dmake_29) rfl kk) ?_
      obtain ⟨Ac103, Ar103, q103, Sz103, Nn103, Hs103, Gs103⟩ := F102
      obtain ⟨T103, h103, X103, e103, W103, st103⟩ := stC X90 hx hZ e90 Ar103 (j := (0 : Int32)) (x := c0) (inb_of Sz103 ⟨by decide, by decide⟩) (g := (mkF m 30 #[.val (.int (Int32.ofNat 1)), .val (.int c0), .val (.int c1), .val (.int c2), .val (.int c3)] [(.int c0), (.int (0 : Int32)), (.ref a89), (.ref a89), (.ref a79), (.ref a79)])) rfl rfl (hb hby dmake_30)
      have F104 := Fr.snoc X103 F45 ge92
      have F105 := Safe.wr W103 F100 F96 F94
      have F106 := F95.wr W103
      have F107 := Safe.wr W103 F100 F96 F100
      have F108 := CHv.wr W103 F100 F96
      have F109 := (Nat.le_trans F97 (Nat.le_of_eq (Wr.size W103).symm))
      have F110 := F98.wr W103 ge92
      have F111 := F99.wr W103 (Or.inr ng93)
      have F112 : Arv Z h103 a89 cA90 .char (1 : Int32) [(.int c0)] (.int 0) := by
        have q := Arv.set Ar103 q103 Sz103 Nn103 Hs103 Gs103 (fits_nar_char _) W103 0 rfl (Nat.le_of_ble_eq_true rfl)
        rw [own_n8 b0.1 b0.2] at q
        exact q
      refine own_step (T' := T103) (g' := (mkF m 31 #[.val (.int (Int32.ofNat 1)), .val (.int c0), .val (.int c1), .val (.int c2), .val (.int c3)] [(.ref a89), (.ref a79), (.ref a79)])) (fun _ kk => st103 _ kk) ?_
      obtain ⟨u113, Fu113⟩ := F106.fld (w10 hw) (Or.inr (w24 hw) : Laid Z a0 "java/lang/String" "java/lang/String" "value" "[B")
      obtain ⟨y113, Fy113⟩ := F106.fld (w10 hw) (Or.inr (w25 hw) : Laid Z a0 "java/lang/String" "java/lang/String" "coder" "B")
      obtain ⟨T113, L113, _, h113, X113, e113, ⟨rfl, Nq113, Kq113, Eq113, Cq113, sb113, kb113, ga113, gb113, nb113, Vq113, Aq113⟩, st113⟩ := own_bcallC X103 hx hZ hown rfl (w12 hw) (w13 hw) (w14 hw) (by decide) (a := a79) (g := (mkF m 31 #[.val (.int (Int32.ofNat 1)), .val (.int c0), .val (.int c1), .val (.int c2), .val (.int c3)] [(.ref a89), (.ref a79), (.ref a79)])) rfl (by rw [hml]; rfl) (argsL := [.ref a89]) (rest := [(.ref a79)]) (StrChars.Road.backV (W := 1) hZ (own_hws hw) (kI := 4) (w10 hw) (cs := [c0]) (n := 1) (n0 := Z.heap.size) ge81 (Nat.le_trans F110.2.1 (Nat.le_refl _)) F106.1 Fu113 Fy113 F112 (SC.ext F110.2) hzc rfl rfl (by decide) (by decide) (hB.take 1) rfl (by decide) (by decide)) e103 pd___C_V rfl rfl (by show 2 * 0 + _ ≤ _; exact Nat.le_of_eq rfl) (hb hby dmake_31) (by decide) (by decide)
      have F114 := Fr.app F104 Nq113
      have F115 := Safe.keep Kq113 (allS F105 all0) F108 F105
      have F116 := F106.keep Kq113
      have F117 := Safe.keep Kq113 (allS F105 all0) F108 F107
      have F118 := F112.keep Kq113 (ninS (Ne.symm ne91) nin0)
      have F119 := CHv.keep Kq113 (allS F105 all0) F108
      have F120 := Nat.le_trans F109 Kq113.1
      have F121 := F110.keep Kq113 (allS ge81 all0)
      have F122 := F111.trans Kq113 (allS (Or.inr ng82) all0)
      refine own_step (T' := T113) (g' := (mkF m 34 #[.val (.int (Int32.ofNat 1)), .val (.int c0), .val (.int c1), .val (.int c2), .val (.int c3)] [(.ref a79)])) (fun _ kk => st113 _ kk) ?_
      have F123 : own_Str Z h113 a79 [c0] := ⟨_, _, F116.1, Cq113, Vq113, Aq113⟩
      exact own_retAW X113 hx hS0 F120 hlk (t := (.object "java/lang/String")) hret rfl rfl rfl (hb hby dmake_34) e113 ⟨_, rfl, F114, F122, F123⟩ (by decide) (by decide)
    · refine own_step (T' := s₁) (g' := (mkF m 35 #[.val (.int (Int32.ofNat n)), .val (.int c0), .val (.int c1), .val (.int c2), .val (.int c3)] [])) (fun _ kk => XS.icmpYes X0.here hx rfl (pc0 := 17) (pc' := 35) rfl (hb hby dmake_17) rfl (feq c78).2 (by decide) (by decide) kk) ?_
      refine own_step (T' := s₁) (g' := (mkF m 36 #[.val (.int (Int32.ofNat n)), .val (.int c0), .val (.int c1), .val (.int c2), .val (.int c3)] [(.int (Int32.ofNat n))])) (fun _ kk => XS.iloadN X0.here hx rfl (hb hby dmake_35) rfl kk) ?_
      refine own_step (T' := s₁) (g' := (mkF m 37 #[.val (.int (Int32.ofNat n)), .val (.int c0), .val (.int c1), .val (.int c2), .val (.int c3)] [(.int (2 : Int32)), (.int (Int32.ofNat n))])) (fun _ kk => XS.iconst X0.here hx rfl (hb hby dmake_36) kk) ?_
      by_cases c124 : (Int32.ofNat n) = (2 : Int32)
      · refine own_step (T' := s₁) (g' := (mkF m 40 #[.val (.int (Int32.ofNat n)), .val (.int c0), .val (.int c1), .val (.int c2), .val (.int c3)] [])) (fun _ kk => XS.icmpNo X0.here hx rfl (hb hby dmake_37) rfl (teq c124).2 kk) ?_
        obtain rfl : n = 2 := own_natne (by omega) (by omega) c124
        obtain ⟨T126, h126, X126, e126, E126, A126, D126, U126, st126⟩ := newO X0 hx hZ hown (w9 hw) (w10 hw) (w11 hw) e0 (g := (mkF m 40 #[.val (.int (Int32.ofNat 2)), .val (.int c0), .val (.int c1), .val (.int c2), .val (.int c3)] [])) rfl (hb hby dmake_40) (by decide) (by decide)
        obtain ⟨a125, g126⟩ : ∃ z, z = h0.size := ⟨_, rfl⟩
        rw [← g126] at A126 D126 U126 st126
        have ge127 : Z.heap.size ≤ a125 := by rw [g126]; exact O0.2.1
        have ng128 : h0.size ≤ a125 := by rw [g126]; exact F46.1
        have F129 := CHv.ext E126 hJ
        have F130 := Nat.le_trans (Nat.zero_le _) E126.1
        have F131 := O0.ext E126
        have F132 := F46.ext E126
        have F133 := Safe.ext E126 hJ (Safe.new (Nat.le_of_eq g126.symm))
        have F134 : own_Obj Z h126 a125 "java/lang/String" := own_Obj.new A126 U126
        refine own_step (T' := T126) (g' := (mkF m 43 #[.val (.int (Int32.ofNat 2)), .val (.int c0), .val (.int c1), .val (.int c2), .val (.int c3)] [(.ref a125)])) (fun _ kk => st126 _ kk) ?_
        refine own_step (T' := T126) (g' := (mkF m 44 #[.val (.int (Int32.ofNat 2)), .val (.int c0), .val (.int c1), .val (.int c2), .val (.int c3)] [(.ref a125), (.ref a125)])) (fun _ kk => XS.dup X126.here hx rfl (hb hby dmake_43) rfl rfl kk) ?_
        refine own_step (T' := T126) (g' := (mkF m 45 #[.val (.int (Int32.ofNat 2)), .val (.int c0), .val (.int c1), .val (.int c2), .val (.int c3)] [(.int (2 : Int32)), (.ref a125), (.ref a125)])) (fun _ kk => XS.iconst X126.here hx rfl (hb hby dmake_44) kk) ?_
        obtain ⟨T136, h136, cA136, X136, e136, E136, A136, st136⟩ := newP X126 hx hZ (aty := .char) (w5 hw) e126 (g := (mkF m 45 #[.val (.int (Int32.ofNat 2)), .val (.int c0), .val (.int c1), .val (.int c2), .val (.int c3)] [(.int (2 : Int32)), (.ref a125), (.ref a125)])) rfl (hb hby dmake_45) rfl (by decide) (cap := 2) (by decide) (by decide) (by decide) (by decide)
        obtain ⟨a135, g136⟩ : ∃ z, z = h126.size := ⟨_, rfl⟩
        rw [← g136] at A136 st136
        have ne137 : a125 ≠ a135 := Nat.ne_of_lt (by rw [g136]; exact F134.lt)
        have ge138 : Z.heap.size ≤ a135 := by rw [g136]; exact F131.2.1
        have ng139 : h0.size ≤ a135 := by rw [g136]; exact F132.1
        have F140 := Safe.ext E136 F129 F133
        have F141 := F134.ext E136
        have F142 := CHv.ext E136 F129
        have F143 := Nat.le_trans F130 E136.1
        have F144 := F131.ext E136
        have F145 := F132.ext E136
        have F146 := Safe.ext E136 F129 (Safe.new (Nat.le_of_eq g136.symm))
        have F147 : Arv Z h136 a135 cA136 .char (2 : Int32) [] (.int 0) := Arv.new A136 (by decide)
        refine own_step (T' := T136) (g' := (mkF m 47 #[.val (.int (Int32.ofNat 2)), .val (.int c0), .val (.int c1), .val (.int c2), .val (.int c3)] [(.ref a135), (.ref a125), (.ref a125)])) (fun _ kk => st136 _ kk) ?_
        have F148 : Arv Z h136 a135 cA136 .char (2 : Int32) [(.int 0), (.int 0)] (.int 0) := Arv.pad F147 (pad_rep [] (.int 0) 2)
        refine own_step (T' := T136) (g' := (mkF m 48 #[.val (.int (Int32.ofNat 2)), .val (.int c0), .val (.int c1), .val (.int c2), .val (.int c3)] [(.ref a135), (.ref a135), (.ref a125), (.ref a125)])) (fun _ kk => XS.dup X136.here hx rfl (hb hby dmake_47) rfl rfl kk) ?_
        refine own_step (T' := T136) (g' := (mkF m 49 #[.val (.int (Int32.ofNat 2)), .val (.int c0), .val (.int c1), .val (.int c2), .val (.int c3)] [(.int (0 : Int32)), (.ref a135), (.ref a135), (.ref a125), (.ref a125)])) (fun _ kk => XS.iconst X136.here hx rfl (hb hby dmake_48) kk) ?_
        refine own_step (T' := T136) (g' := (mkF m 50 #[.val (.int (Int32.ofNat 2)), .val (.int c0), .val (.int c1), .val (.int c2), .val (.int c3)] [(.int c0), (.int (0 : Int32)), (.ref a135), (.ref a135), (.ref a125), (.ref a125)])) (fun _ kk => XS.iloadN X136.here hx rfl (hb hby dmake_49) rfl kk) ?_
        obtain ⟨Ac149, Ar149, q149, Sz149, Nn149, Hs149, Gs149⟩ := F148
        obtain ⟨T149, h149, X149, e149, W149, st149⟩ := stC X136 hx hZ e136 Ar149 (j := (0 : Int32)) (x := c0) (inb_of Sz149 ⟨by decide, by decide⟩) (g := (mkF m 50 #[.val (.int (Int32.ofNat 2)), .val (.int c0), .val (.int c1), .val (.int c2), .val (.int c3)] [(.int c0), (.int (0 : Int32)), (.ref a135), (.ref a135), (.ref a125), (.ref a125)])) rfl rfl (hb hby dmake_50)
        have F150 := Fr.snoc X149 F45 ge138
        have F151 := Safe.wr W149 F146 F142 F140
        have F152 := F141.wr W149
        have F153 := Safe.wr W149 F146 F142 F146
        have F154 := CHv.wr W149 F146 F142
        have F155 := (Nat.le_trans F143 (Nat.le_of_eq (Wr.size W149).symm))
        have F156 := F144.wr W149 ge138
        have F157 := F145.wr W149 (Or.inr ng139)
        have F158 : Arv Z h149 a135 cA136 .char (2 : Int32) [(.int c0), (.int 0)] (.int 0) := by
          have q := Arv.set Ar149 q149 Sz149 Nn149 Hs149 Gs149 (fits_nar_char _) W149 0 rfl (Nat.le_of_ble_eq_true rfl)
          rw [own_n8 b0.1 b0.2] at q
          exact q
        refine own_step (T' := T149) (g' := (mkF m 51 #[.val (.int (Int32.ofNat 2)), .val (.int c0), .val (.int c1), .val (.int c2), .val (.int c3)] [(.ref a135), (.ref a125), (.ref a125)])) (fun _ kk => st149 _ kk) ?_
        refine own_step (T' := T149) (g' := (mkF m 52 #[.val (.int (Int32.ofNat 2)), .val (.int c0), .val (.int c1), .val (.int c2), .val (.int c3)] [(.ref a135), (.ref a135), (.ref a125), (.ref a125)])) (fun _ kk => XS.dup X149.here hx rfl (hb hby dmake_51) rfl rfl kk) ?_
        refine own_step (T' := T149) (g' := (mkF m 53 #[.val (.int (Int32.ofNat 2)), .val (.int c0), .val (.int c1), .val (.int c2), .val (.int c3)] [(.int (1 : Int32)), (.ref a135), (.ref a135), (.ref a125), (.ref a125)])) (fun _ kk => XS.iconst X149.here hx rfl (hb hby dmake_52) kk) ?_
        refine own_step (T' := T149) (g' := (mkF m 54 #[.val (.int (Int32.ofNat 2)), .val (.int c0), .val (.int c1), .val (.int c2), .val (.int c3)] [(.int c1), (.int (1 : Int32)), (.ref a135), (.ref a135), (.ref a125), (.ref a125)])) (fun _ kk => XS.iloadN X149.here hx rfl (hb hby dmake_53) rfl kk) ?_
        obtain ⟨Ac159, Ar159, q159, Sz159, Nn159, Hs159, Gs159⟩ := F158
        obtain ⟨T159, h159, X159, e159, W159, st159⟩ := stC X149 hx hZ e149 Ar159 (j := (1 : Int32)) (x := c1) (inb_of Sz159 ⟨by decide, by decide⟩) (g := (mkF m 54 #[.val (.int (Int32.ofNat 2)), .val (.int c0), .val (.int c1), .val (.int c2), .val (.int c3)] [(.int c1), (.int (1 : Int32)), (.ref a135), (.ref a135), (.ref a125), (.ref a125)])) rfl rfl (hb hby dmake_54)
        have F160 := Fr.snoc X159 F150 ge138
        have F161 := Safe.wr W159 F153 F154 F151
        have F162 := F152.wr W159
        have F163 := Safe.wr W159 F153 F154 F153
        have F164 := CHv.wr W159 F153 F154
        have F165 := (Nat.le_trans F155 (Nat.le_of_eq (Wr.size W159).symm))
        have F166 := F156.wr W159 ge138
        have F167 := F157.wr W159 (Or.inr ng139)
        have F168 : Arv Z h159 a135 cA136 .char (2 : Int32) [(.int c0), (.int c1)] (.int 0) := by
          have q := Arv.set Ar159 q159 Sz159 Nn159 Hs159 Gs159 (fits_nar_char _) W159 1 rfl (Nat.le_of_ble_eq_true rfl)
          rw [own_n8 b1.1 b1.2] at q
          exact q
        refine own_step (T' := T159) (g' := (mkF m 55 #[.val (.int (Int32.ofNat 2)), .val (.int c0), .val (.int c1), .val (.int c2), .val (.int c3)] [(.ref a135), (.ref a125), (.ref a125)])) (fun _ kk => st159 _ kk) ?_
        obtain ⟨u169, Fu169⟩ := F162.fld (w10 hw) (Or.inr (w24 hw) : Laid Z a0 "java/lang/String" "java/lang/String" "value" "[B")
        obtain ⟨y169, Fy169⟩ := F162.fld (w10 hw) (Or.inr (w25 hw) : Laid Z a0 "java/lang/String" "java/lang/String" "coder" "B")
        obtain ⟨T169, L169, _, h169, X169, e169, ⟨rfl, Nq169, Kq169, Eq169, Cq169, sb169, kb169, ga169, gb169, nb169, Vq169, Aq169⟩, st169⟩ := own_bcallC X159 hx hZ hown rfl (w12 hw) (w13 hw) (w14 hw) (by decide) (a := a125) (g := (mkF m 55 #[.val (.int (Int32.ofNat 2)), .val (.int c0), .val (.int c1), .val (.int c2), .val (.int c3)] [(.ref a135), (.ref a125), (.ref a125)])) rfl (by rw [hml]; rfl) (argsL := [.ref a135]) (rest := [(.ref a125)]) (StrChars.Road.backV (W := 1) hZ (own_hws hw) (kI := 4) (w10 hw) (cs := [c0, c1]) (n := 2) (n0 := Z.heap.size) ge127 (Nat.le_trans F166.2.1 (Nat.le_refl _)) F162.1 Fu169 Fy169 F168 (SC.ext F166.2) hzc rfl rfl (by decide) (by decide) (hB.take 2) rfl (by decide) (by decide)) e159 pd___C_V rfl rfl (by show 2 * 0 + _ ≤ _; exact Nat.le_of_eq rfl) (hb hby dmake_55) (by decide) (by decide)
        have F170 := Fr.app F160 Nq169
        have F171 := Safe.keep Kq169 (allS F161 all0) F164 F161
        have F172 := F162.keep Kq169
        have F173 := Safe.keep Kq169 (allS F161 all0) F164 F163
        have F174 := F168.keep Kq169 (ninS (Ne.symm ne137) nin0)
        have F175 := CHv.keep Kq169 (allS F161 all0) F164
        have F176 := Nat.le_trans F165 Kq169.1
        have F177 := F166.keep Kq169 (allS ge127 all0)
        have F178 := F167.trans Kq169 (allS (Or.inr ng128) all0)
        refine own_step (T' := T169) (g' := (mkF m 58 #[.val (.int (Int32.ofNat 2)), .val (.int c0), .val (.int c1), .val (.int c2), .val (.int c3)] [(.ref a125)])) (fun _ kk => st169 _ kk) ?_
        have F179 : own_Str Z h169 a125 [c0, c1] := ⟨_, _, F172.1, Cq169, Vq169, Aq169⟩
        exact own_retAW X169 hx hS0 F176 hlk (t := (.object "java/lang/String")) hret rfl rfl rfl (hb hby dmake_58) e169 ⟨_, rfl, F170, F178, F179⟩ (by decide) (by decide)
      · refine own_step (T' := s₁) (g' := (mkF m 59 #[.val (.int (Int32.ofNat n)), .val (.int c0), .val (.int c1), .val (.int c2), .val (.int c3)] [])) (fun _ kk => XS.icmpYes X0.here hx rfl (pc0 := 37) (pc' := 59) rfl (hb hby dmake_37) rfl (feq c124).2 (by decide) (by decide) kk) ?_
        refine own_step (T' := s₁) (g' := (mkF m 60 #[.val (.int (Int32.ofNat n)), .val (.int c0), .val (.int c1), .val (.int c2), .val (.int c3)] [(.int (Int32.ofNat n))])) (fun _ kk => XS.iloadN X0.here hx rfl (hb hby dmake_59) rfl kk) ?_
        refine own_step (T' := s₁) (g' := (mkF m 61 #[.val (.int (Int32.ofNat n)), .val (.int c0), .val (.int c1), .val (.int c2), .val (.int c3)] [(.int (3 : Int32)), (.int (Int32.ofNat n))])) (fun _ kk => XS.iconst X0.here hx rfl (hb hby dmake_60) kk) ?_
        by_cases c180 : (Int32.ofNat n) = (3 : Int32)
        · refine own_step (T' := s₁) (g' := (mkF m 64 #[.val (.int (Int32.ofNat n)), .val (.int c0), .val (.int c1), .val (.int c2), .val (.int c3)] [])) (fun _ kk => XS.icmpNo X0.here hx rfl (hb hby dmake_61) rfl (teq c180).2 kk) ?_
          obtain rfl : n = 3 := own_natne (by omega) (by omega) c180
          obtain ⟨T182, h182, X182, e182, E182, A182, D182, U182, st182⟩ := newO X0 hx hZ hown (w9 hw) (w10 hw) (w11 hw) e0 (g := (mkF m 64 #[.val (.int (Int32.ofNat 3)), .val (.int c0), .val (.int c1), .val (.int c2), .val (.int c3)] [])) rfl (hb hby dmake_64) (by decide) (by decide)
          obtain ⟨a181, g182⟩ : ∃ z, z = h0.size := ⟨_, rfl⟩
          rw [← g182] at A182 D182 U182 st182
          have ge183 : Z.heap.size ≤ a181 := by rw [g182]; exact O0.2.1
          have ng184 : h0.size ≤ a181 := by rw [g182]; exact F46.1
          have F185 := CHv.ext E182 hJ
          have F186 := Nat.le_trans (Nat.zero_le _) E182.1
          have F187 := O0.ext E182
          have F188 := F46.ext E182
          have F189 := Safe.ext E182 hJ (Safe.new (Nat.le_of_eq g182.symm))
          have F190 : own_Obj Z h182 a181 "java/lang/String" := own_Obj.new A182 U182
          refine own_step (T' := T182) (g' := (mkF m 67 #[.val (.int (Int32.ofNat 3)), .val (.int c0), .val (.int c1), .val (.int c2), .val (.int c3)] [(.ref a181)])) (fun _ kk => st182 _ kk) ?_
          refine own_step (T' := T182) (g' := (mkF m 68 #[.val (.int (Int32.ofNat 3)), .val (.int c0), .val (.int c1), .val (.int c2), .val (.int c3)] [(.ref a181), (.ref a181)])) (fun _ kk => XS.dup X182.here hx rfl (hb hby dmake_67) rfl rfl kk) ?_
          refine own_step (T' := T182) (g' := (mkF m 69 #[.val (.int (Int32.ofNat 3)), .val (.int c0), .val (.int c1), .val (.int c2), .val (.int c3)] [(.int (3 : Int32)), (.ref a181), (.ref a181)])) (fun _ kk => XS.iconst X182.here hx rfl (hb hby dmake_68) kk) ?_
          obtain ⟨T192, h192, cA192, X192, e192, E192, A192, st192⟩ := newP X182 hx hZ (aty := .char) (w5 hw) e182 (g := (mkF m 69 #[.val (.int (Int32.ofNat 3)), .val (.int c0), .val (.int c1), .val (.int c2), .val (.int c3)] [(.int (3 : Int32)), (.ref a181), (.ref a181)])) rfl (hb hby dmake_69) rfl (by decide) (cap := 3) (by decide) (by decide) (by decide) (by decide)
          obtain ⟨a191, g192⟩ : ∃ z, z = h182.size := ⟨_, rfl⟩
          rw [← g192] at A192 st192
          have ne193 : a181 ≠ a191 := Nat.ne_of_lt (by rw [g192]; exact F190.lt)
          have ge194 : Z.heap.size ≤ a191 := by rw [g192]; exact F187.2.1
          have ng195 : h0.size ≤ a191 := by rw [g192]; exact F188.1
          have F196 := Safe.ext E192 F185 F189
          have F197 := F190.ext E192
          have F198 := CHv.ext E192 F185
          have F199 := Nat.le_trans F186 E192.1
          have F200 := F187.ext E192
          have F201 := F188.ext E192
          have F202 := Safe.ext E192 F185 (Safe.new (Nat.le_of_eq g192.symm))
          have F203 : Arv Z h192 a191 cA192 .char (3 : Int32) [] (.int 0) := Arv.new A192 (by decide)
          refine own_step (T' := T192) (g' := (mkF m 71 #[.val (.int (Int32.ofNat 3)), .val (.int c0), .val (.int c1), .val (.int c2), .val (.int c3)] [(.ref a191), (.ref a181), (.ref a181)])) (fun _ kk => st192 _ kk) ?_
          have F204 : Arv Z h192 a191 cA192 .char (3 : Int32) [(.int 0), (.int 0), (.int 0)] (.int 0) := Arv.pad F203 (pad_rep [] (.int 0) 3)
          refine own_step (T' := T192) (g' := (mkF m 72 #[.val (.int (Int32.ofNat 3)), .val (.int c0), .val (.int c1), .val (.int c2), .val (.int c3)] [(.ref a191), (.ref a191), (.ref a181), (.ref a181)])) (fun _ kk => XS.dup X192.here hx rfl (hb hby dmake_71) rfl rfl kk) ?_
          refine own_step (T' := T192) (g' := (mkF m 73 #[.val (.int (Int32.ofNat 3)), .val (.int c0), .val (.int c1), .val (.int c2), .val (.int c3)] [(.int (0 : Int32)), (.ref a191), (.ref a191), (.ref a181), (.ref a181)])) (fun _ kk => XS.iconst X192.here hx rfl (hb hby dmake_72) kk) ?_
          refine own_step (T' := T192) (g' := (mkF m 74 #[.val (.int (Int32.ofNat 3)), .val (.int c0), .val (.int c1), .val (.int c2), .val (.int c3)] [(.int c0), (.int (0 : Int32)), (.ref a191), (.ref a191), (.ref a181), (.ref a181)])) (fun _ kk => XS.iloadN X192.here hx rfl (hb hby dmake_73) rfl kk) ?_
          obtain ⟨Ac205, Ar205, q205, Sz205, Nn205, Hs205, Gs205⟩ := F204
          obtain ⟨T205, h205, X205, e205, W205, st205⟩ := stC X192 hx hZ e192 Ar205 (j := (0 : Int32)) (x := c0) (inb_of Sz205 ⟨by decide, by decide⟩) (g := (mkF m 74 #[.val (.int (Int32.ofNat 3)), .val (.int c0), .val (.int c1), .val (.int c2), .val (.int c3)] [(.int c0), (.int (0 : Int32)), (.ref a191), (.ref a191), (.ref a181), (.ref a181)])) rfl rfl (hb hby dmake_74)
          have F206 := Fr.snoc X205 F45 ge194
          have F207 := Safe.wr W205 F202 F198 F196
          have F208 := F197.wr W205
          have F209 := Safe.wr W205 F202 F198 F202
          have F210 := CHv.wr W205 F202 F198
          have F211 := (Nat.le_trans F199 (Nat.le_of_eq (Wr.size W205).symm))
          have F212 := F200.wr W205 ge194
          have F213 := F201.wr W205 (Or.inr ng195)
          have F214 : Arv Z h205 a191 cA192 .char (3 : Int32) [(.int c0), (.int 0), (.int 0)] (.int 0) := by
            have q := Arv.set Ar205 q205 Sz205 Nn205 Hs205 Gs205 (fits_nar_char _) W205 0 rfl (Nat.le_of_ble_eq_true rfl)
            rw [own_n8 b0.1 b0.2] at q
            exact q
          refine own_step (T' := T205) (g' := (mkF m 75 #[.val (.int (Int32.ofNat 3)), .val (.int c0), .val (.int c1), .val (.int c2), .val (.int c3)] [(.ref a191), (.ref a181), (.ref a181)])) (fun _ kk => st205 _ kk) ?_
          refine own_step (T' := T205) (g' := (mkF m 76 #[.val (.int (Int32.ofNat 3)), .val (.int c0), .val (.int c1), .val (.int c2), .val (.int c3)] [(.ref a191), (.ref a191), (.ref a181), (.ref a181)])) (fun _ kk => XS.dup X205.here hx rfl (hb hby dmake_75) rfl rfl kk) ?_
          refine own_step (T' := T205) (g' := (mkF m 77 #[.val (.int (Int32.ofNat 3)), .val (.int c0), .val (.int c1), .val (.int c2), .val (.int c3)] [(.int (1 : Int32)), (.ref a191), (.ref a191), (.ref a181), (.ref a181)])) (fun _ kk => XS.iconst X205.here hx rfl (hb hby dmake_76) kk) ?_
          refine own_step (T' := T205) (g' := (mkF m 78 #[.val (.int (Int32.ofNat 3)), .val (.int c0), .val (.int c1), .val (.int c2), .val (.int c3)] [(.int c1), (.int (1 : Int32)), (.ref a191), (.ref a191), (.ref a181), (.ref a181)])) (fun _ kk => XS.iloadN X205.here hx rfl (hb hby dmake_77) rfl kk) ?_
          obtain ⟨Ac215, Ar215, q215, Sz215, Nn215, Hs215, Gs215⟩ := F214
          obtain ⟨T215, h215, X215, e215, W215, st215⟩ := stC X205 hx hZ e205 Ar215 (j := (1 : Int32)) (x := c1) (inb_of Sz215 ⟨by decide, by decide⟩) (g := (mkF m 78 #[.val (.int (Int32.ofNat 3)), .val (.int c0), .val (.int c1), .val (.int c2), .val (.int c3)] [(.int c1), (.int (1 : Int32)), (.ref a191), (.ref a191), (.ref a181), (.ref a181)])) rfl rfl (hb hby dmake_78)
          have F216 := Fr.snoc X215 F206 ge194
          have F217 := Safe.wr W215 F209 F210 F207
          have F218 := F208.wr W215
          have F219 := Safe.wr W215 F209 F210 F209
          have F220 := CHv.wr W215 F209 F210
          have F221 := (Nat.le_trans F211 (Nat.le_of_eq (Wr.size W215).symm))
          have F222 := F212.wr W215 ge194
          have F223 := F213.wr W215 (Or.inr ng195)
          have F224 : Arv Z h215 a191 cA192 .char (3 : Int32) [(.int c0), (.int c1), (.int 0)] (.int 0) := by
            have q := Arv.set Ar215 q215 Sz215 Nn215 Hs215 Gs215 (fits_nar_char _) W215 1 rfl (Nat.le_of_ble_eq_true rfl)
            rw [own_n8 b1.1 b1.2] at q
            exact q
          refine own_step (T' := T215) (g' := (mkF m 79 #[.val (.int (Int32.ofNat 3)), .val (.int c0), .val (.int c1), .val (.int c2), .val (.int c3)] [(.ref a191), (.ref a181), (.ref a181)])) (fun _ kk => st215 _ kk) ?_
          refine own_step (T' := T215) (g' := (mkF m 80 #[.val (.int (Int32.ofNat 3)), .val (.int c0), .val (.int c1), .val (.int c2), .val (.int c3)] [(.ref a191), (.ref a191), (.ref a181), (.ref a181)])) (fun _ kk => XS.dup X215.here hx rfl (hb hby dmake_79) rfl rfl kk) ?_
          refine own_step (T' := T215) (g' := (mkF m 81 #[.val (.int (Int32.ofNat 3)), .val (.int c0), .val (.int c1), .val (.int c2), .val (.int c3)] [(.int (2 : Int32)), (.ref a191), (.ref a191), (.ref a181), (.ref a181)])) (fun _ kk => XS.iconst X215.here hx rfl (hb hby dmake_80) kk) ?_
          refine own_step (T' := T215) (g' := (mkF m 82 #[.val (.int (Int32.ofNat 3)), .val (.int c0), .val (.int c1), .val (.int c2), .val (.int c3)] [(.int c2), (.int (2 : Int32)), (.ref a191), (.ref a191), (.ref a181), (.ref a181)])) (fun _ kk => XS.iloadN X215.here hx rfl (hb hby dmake_81) rfl kk) ?_
          obtain ⟨Ac225, Ar225, q225, Sz225, Nn225, Hs225, Gs225⟩ := F224
          obtain ⟨T225, h225, X225, e225, W225, st225⟩ := stC X215 hx hZ e215 Ar225 (j := (2 : Int32)) (x := c2) (inb_of Sz225 ⟨by decide, by decide⟩) (g := (mkF m 82 #[.val (.int (Int32.ofNat 3)), .val (.int c0), .val (.int c1), .val (.int c2), .val (.int c3)] [(.int c2), (.int (2 : Int32)), (.ref a191), (.ref a191), (.ref a181), (.ref a181)])) rfl rfl (hb hby dmake_82)
          have F226 := Fr.snoc X225 F216 ge194
          have F227 := Safe.wr W225 F219 F220 F217
          have F228 := F218.wr W225
          have F229 := Safe.wr W225 F219 F220 F219
          have F230 := CHv.wr W225 F219 F220
          have F231 := (Nat.le_trans F221 (Nat.le_of_eq (Wr.size W225).symm))
          have F232 := F222.wr W225 ge194
          have F233 := F223.wr W225 (Or.inr ng195)
          have F234 : Arv Z h225 a191 cA192 .char (3 : Int32) [(.int c0), (.int c1), (.int c2)] (.int 0) := by
            have q := Arv.set Ar225 q225 Sz225 Nn225 Hs225 Gs225 (fits_nar_char _) W225 2 rfl (Nat.le_of_ble_eq_true rfl)
            rw [own_n8 b2.1 b2.2] at q
            exact q
          refine own_step (T' := T225) (g' := (mkF m 83 #[.val (.int (Int32.ofNat 3)), .val (.int c0), .val (.int c1), .val (.int c2), .val (.int c3)] [(.ref a191), (.ref a181), (.ref a181)])) (fun _ kk => st225 _ kk) ?_
          obtain ⟨u235, Fu235⟩ := F228.fld (w10 hw) (Or.inr (w24 hw) : Laid Z a0 "java/lang/String" "java/lang/String" "value" "[B")
          obtain ⟨y235, Fy235⟩ := F228.fld (w10 hw) (Or.inr (w25 hw) : Laid Z a0 "java/lang/String" "java/lang/String" "coder" "B")
          obtain ⟨T235, L235, _, h235, X235, e235, ⟨rfl, Nq235, Kq235, Eq235, Cq235, sb235, kb235, ga235, gb235, nb235, Vq235, Aq235⟩, st235⟩ := own_bcallC X225 hx hZ hown rfl (w12 hw) (w13 hw) (w14 hw) (by decide) (a := a181) (g := (mkF m 83 #[.val (.int (Int32.ofNat 3)), .val (.int c0), .val (.int c1), .val (.int c2), .val (.int c3)] [(.ref a191), (.ref a181), (.ref a181)])) rfl (by rw [hml]; rfl) (argsL := [.ref a191]) (rest := [(.ref a181)]) (StrChars.Road.backV (W := 1) hZ (own_hws hw) (kI := 4) (w10 hw) (cs := [c0, c1, c2]) (n := 3) (n0 := Z.heap.size) ge183 (Nat.le_trans F232.2.1 (Nat.le_refl _)) F228.1 Fu235 Fy235 F234 (SC.ext F232.2) hzc rfl rfl (by decide) (by decide) (hB.take 3) rfl (by decide) (by decide)) e225 pd___C_V rfl rfl (by show 2 * 0 + _ ≤ _; exact Nat.le_of_eq rfl) (hb hby dmake_83) (by decide) (by decide)
          have F236 := Fr.app F226 Nq235
          have F237 := Safe.keep Kq235 (allS F227 all0) F230 F227
          have F238 := F228.keep Kq235
          have F239 := Safe.keep Kq235 (allS F227 all0) F230 F229
          have F240 := F234.keep Kq235 (ninS (Ne.symm ne193) nin0)
          have F241 := CHv.keep Kq235 (allS F227 all0) F230
          have F242 := Nat.le_trans F231 Kq235.1
          have F243 := F232.keep Kq235 (allS ge183 all0)
          have F244 := F233.trans Kq235 (allS (Or.inr ng184) all0)
          refine own_step (T' := T235) (g' := (mkF m 86 #[.val (.int (Int32.ofNat 3)), .val (.int c0), .val (.int c1), .val (.int c2), .val (.int c3)] [(.ref a181)])) (fun _ kk => st235 _ kk) ?_
          have F245 : own_Str Z h235 a181 [c0, c1, c2] := ⟨_, _, F238.1, Cq235, Vq235, Aq235⟩
          exact own_retAW X235 hx hS0 F242 hlk (t := (.object "java/lang/String")) hret rfl rfl rfl (hb hby dmake_86) e235 ⟨_, rfl, F236, F244, F245⟩ (by decide) (by decide)
        · refine own_step (T' := s₁) (g' := (mkF m 87 #[.val (.int (Int32.ofNat n)), .val (.int c0), .val (.int c1), .val (.int c2), .val (.int c3)] [])) (fun _ kk => XS.icmpYes X0.here hx rfl (pc0 := 61) (pc' := 87) rfl (hb hby dmake_61) rfl (feq c180).2 (by decide) (by decide) kk) ?_
          obtain rfl : n = 4 := by have q0 : n ≠ 0 := fun q => c47 (by rw [q]; rfl); have q1 : n ≠ 1 := fun q => c78 (by rw [q]; rfl); have q2 : n ≠ 2 := fun q => c124 (by rw [q]; rfl); have q3 : n ≠ 3 := fun q => c180 (by rw [q]; rfl); omega
          obtain ⟨T247, h247, X247, e247, E247, A247, D247, U247, st247⟩ := newO X0 hx hZ hown (w9 hw) (w10 hw) (w11 hw) e0 (g := (mkF m 87 #[.val (.int (Int32.ofNat 4)), .val (.int c0), .val (.int c1), .val (.int c2), .val (.int c3)] [])) rfl (hb hby dmake_87) (by decide) (by decide)
          obtain ⟨a246, g247⟩ : ∃ z, z = h0.size := ⟨_, rfl⟩
          rw [← g247] at A247 D247 U247 st247
          have ge248 : Z.heap.size ≤ a246 := by rw [g247]; exact O0.2.1
          have ng249 : h0.size ≤ a246 := by rw [g247]; exact F46.1
          have F250 := CHv.ext E247 hJ
          have F251 := Nat.le_trans (Nat.zero_le _) E247.1
          have F252 := O0.ext E247
          have F253 := F46.ext E247
          have F254 := Safe.ext E247 hJ (Safe.new (Nat.le_of_eq g247.symm))
          have F255 : own_Obj Z h247 a246 "java/lang/String" := own_Obj.new A247 U247
          refine own_step (T' := T247) (g' := (mkF m 90 #[.val (.int (Int32.ofNat 4)), .val (.int c0), .val (.int c1), .val (.int c2), .val (.int c3)] [(.ref a246)])) (fun _ kk => st247 _ kk) ?_
          refine own_step (T' := T247) (g' := (mkF m 91 #[.val (.int (Int32.ofNat 4)), .val (.int c0), .val (.int c1), .val (.int c2), .val (.int c3)] [(.ref a246), (.ref a246)])) (fun _ kk => XS.dup X247.here hx rfl (hb hby dmake_90) rfl rfl kk) ?_
          refine own_step (T' := T247) (g' := (mkF m 92 #[.val (.int (Int32.ofNat 4)), .val (.int c0), .val (.int c1), .val (.int c2), .val (.int c3)] [(.int (4 : Int32)), (.ref a246), (.ref a246)])) (fun _ kk => XS.iconst X247.here hx rfl (hb hby dmake_91) kk) ?_
          obtain ⟨T257, h257, cA257, X257, e257, E257, A257, st257⟩ := newP X247 hx hZ (aty := .char) (w5 hw) e247 (g := (mkF m 92 #[.val (.int (Int32.ofNat 4)), .val (.int c0), .val (.int c1), .val (.int c2), .val (.int c3)] [(.int (4 : Int32)), (.ref a246), (.ref a246)])) rfl (hb hby dmake_92) rfl (by decide) (cap := 4) (by decide) (by decide) (by decide) (by decide)
          obtain ⟨a256, g257⟩ : ∃ z, z = h247.size := ⟨_, rfl⟩
          rw [← g257] at A257 st257
          have ne258 : a246 ≠ a256 := Nat.ne_of_lt (by rw [g257]; exact F255.lt)
          have ge259 : Z.heap.size ≤ a256 := by rw [g257]; exact F252.2.1
          have ng260 : h0.size ≤ a256 := by rw [g257]; exact F253.1
          have F261 := Safe.ext E257 F250 F254
          have F262 := F255.ext E257
          have F263 := CHv.ext E257 F250
          have F264 := Nat.le_trans F251 E257.1
          have F265 := F252.ext E257
          have F266 := F253.ext E257
          have F267 := Safe.ext E257 F250 (Safe.new (Nat.le_of_eq g257.symm))
          have F268 : Arv Z h257 a256 cA257 .char (4 : Int32) [] (.int 0) := Arv.new A257 (by decide)
          refine own_step (T' := T257) (g' := (mkF m 94 #[.val (.int (Int32.ofNat 4)), .val (.int c0), .val (.int c1), .val (.int c2), .val (.int c3)] [(.ref a256), (.ref a246), (.ref a246)])) (fun _ kk => st257 _ kk) ?_
          have F269 : Arv Z h257 a256 cA257 .char (4 : Int32) [(.int 0), (.int 0), (.int 0), (.int 0)] (.int 0) := Arv.pad F268 (pad_rep [] (.int 0) 4)
          refine own_step (T' := T257) (g' := (mkF m 95 #[.val (.int (Int32.ofNat 4)), .val (.int c0), .val (.int c1), .val (.int c2), .val (.int c3)] [(.ref a256), (.ref a256), (.ref a246), (.ref a246)])) (fun _ kk => XS.dup X257.here hx rfl (hb hby dmake_94) rfl rfl kk) ?_
          refine own_step (T' := T257) (g' := (mkF m 96 #[.val (.int (Int32.ofNat 4)), .val (.int c0), .val (.int c1), .val (.int c2), .val (.int c3)] [(.int (0 : Int32)), (.ref a256), (.ref a256), (.ref a246), (.ref a246)])) (fun _ kk => XS.iconst X257.here hx rfl (hb hby dmake_95) kk) ?_
          refine own_step (T' := T257) (g' := (mkF m 97 #[.val (.int (Int32.ofNat 4)), .val (.int c0), .val (.int c1), .val (.int c2), .val (.int c3)] [(.int c0), (.int (0 : Int32)), (.ref a256), (.ref a256), (.ref a246), (.ref a246)])) (fun _ kk => XS.iloadN X257.here hx rfl (hb hby dmake_96) rfl kk) ?_
          obtain ⟨Ac270, Ar270, q270, Sz270, Nn270, Hs270, Gs270⟩ := F269
          obtain ⟨T270, h270, X270, e270, W270, st270⟩ := stC X257 hx hZ e257 Ar270 (j := (0 : Int32)) (x := c0) (inb_of Sz270 ⟨by decide, by decide⟩) (g := (mkF m 97 #[.val (.int (Int32.ofNat 4)), .val (.int c0), .val (.int c1), .val (.int c2), .val (.int c3)] [(.int c0), (.int (0 : Int32)), (.ref a256), (.ref a256), (.ref a246), (.ref a246)])) rfl rfl (hb hby dmake_97)
          have F271 := Fr.snoc X270 F45 ge259
          have F272 := Safe.wr W270 F267 F263 F261
          have F273 := F262.wr W270
          have F274 := Safe.wr W270 F267 F263 F267
          have F275 := CHv.wr W270 F267 F263
          have F276 := (Nat.le_trans F264 (Nat.le_of_eq (Wr.size W270).symm))
          have F277 := F265.wr W270 ge259
          have F278 := F266.wr W270 (Or.inr ng260)
          have F279 : Arv Z h270 a256 cA257 .char (4 : Int32) [(.int c0), (.int 0), (.int 0), (.int 0)] (.int 0) := by
            have q := Arv.set Ar270 q270 Sz270 Nn270 Hs270 Gs270 (fits_nar_char _) W270 0 rfl (Nat.le_of_ble_eq_true rfl)
            rw [own_n8 b0.1 b0.2] at q
            exact q
          refine own_step (T' := T270) (g' := (mkF m 98 #[.val (.int (Int32.ofNat 4)), .val (.int c0), .val (.int c1), .val (.int c2), .val (.int c3)] [(.ref a256), (.ref a246), (.ref a246)])) (fun _ kk => st270 _ kk) ?_
          refine own_step (T' := T270) (g' := (mkF m 99 #[.val (.int (Int32.ofNat 4)), .val (.int c0), .val (.int c1), .val (.int c2), .val (.int c3)] [(.ref a256), (.ref a256), (.ref a246), (.ref a246)])) (fun _ kk => XS.dup X270.here hx rfl (hb hby dmake_98) rfl rfl kk) ?_
          refine own_step (T' := T270) (g' := (mkF m 100 #[.val (.int (Int32.ofNat 4)), .val (.int c0), .val (.int c1), .val (.int c2), .val (.int c3)] [(.int (1 : Int32)), (.ref a256), (.ref a256), (.ref a246), (.ref a246)])) (fun _ kk => XS.iconst X270.here hx rfl (hb hby dmake_99) kk) ?_
          refine own_step (T' := T270) (g' := (mkF m 101 #[.val (.int (Int32.ofNat 4)), .val (.int c0), .val (.int c1), .val (.int c2), .val (.int c3)] [(.int c1), (.int (1 : Int32)), (.ref a256), (.ref a256), (.ref a246), (.ref a246)])) (fun _ kk => XS.iloadN X270.here hx rfl (hb hby dmake_100) rfl kk) ?_
          obtain ⟨Ac280, Ar280, q280, Sz280, Nn280, Hs280, Gs280⟩ := F279
          obtain ⟨T280, h280, X280, e280, W280, st280⟩ := stC X270 hx hZ e270 Ar280 (j := (1 : Int32)) (x := c1) (inb_of Sz280 ⟨by decide, by decide⟩) (g := (mkF m 101 #[.val (.int (Int32.ofNat 4)), .val (.int c0), .val (.int c1), .val (.int c2), .val (.int c3)] [(.int c1), (.int (1 : Int32)), (.ref a256), (.ref a256), (.ref a246), (.ref a246)])) rfl rfl (hb hby dmake_101)
          have F281 := Fr.snoc X280 F271 ge259
          have F282 := Safe.wr W280 F274 F275 F272
          have F283 := F273.wr W280
          have F284 := Safe.wr W280 F274 F275 F274
          have F285 := CHv.wr W280 F274 F275
          have F286 := (Nat.le_trans F276 (Nat.le_of_eq (Wr.size W280).symm))
          have F287 := F277.wr W280 ge259
          have F288 := F278.wr W280 (Or.inr ng260)
          have F289 : Arv Z h280 a256 cA257 .char (4 : Int32) [(.int c0), (.int c1), (.int 0), (.int 0)] (.int 0) := by
            have q := Arv.set Ar280 q280 Sz280 Nn280 Hs280 Gs280 (fits_nar_char _) W280 1 rfl (Nat.le_of_ble_eq_true rfl)
            rw [own_n8 b1.1 b1.2] at q
            exact q
          refine own_step (T' := T280) (g' := (mkF m 102 #[.val (.int (Int32.ofNat 4)), .val (.int c0), .val (.int c1), .val (.int c2), .val (.int c3)] [(.ref a256), (.ref a246), (.ref a246)])) (fun _ kk => st280 _ kk) ?_
          refine own_step (T' := T280) (g' := (mkF m 103 #[.val (.int (Int32.ofNat 4)), .val (.int c0), .val (.int c1), .val (.int c2), .val (.int c3)] [(.ref a256), (.ref a256), (.ref a246), (.ref a246)])) (fun _ kk => XS.dup X280.here hx rfl (hb hby dmake_102) rfl rfl kk) ?_
          refine own_step (T' := T280) (g' := (mkF m 104 #[.val (.int (Int32.ofNat 4)), .val (.int c0), .val (.int c1), .val (.int c2), .val (.int c3)] [(.int (2 : Int32)), (.ref a256), (.ref a256), (.ref a246), (.ref a246)])) (fun _ kk => XS.iconst X280.here hx rfl (hb hby dmake_103) kk) ?_
          refine own_step (T' := T280) (g' := (mkF m 105 #[.val (.int (Int32.ofNat 4)), .val (.int c0), .val (.int c1), .val (.int c2), .val (.int c3)] [(.int c2), (.int (2 : Int32)), (.ref a256), (.ref a256), (.ref a246), (.ref a246)])) (fun _ kk => XS.iloadN X280.here hx rfl (hb hby dmake_104) rfl kk) ?_
          obtain ⟨Ac290, Ar290, q290, Sz290, Nn290, Hs290, Gs290⟩ := F289
          obtain ⟨T290, h290, X290, e290, W290, st290⟩ := stC X280 hx hZ e280 Ar290 (j := (2 : Int32)) (x := c2) (inb_of Sz290 ⟨by decide, by decide⟩) (g := (mkF m 105 #[.val (.int (Int32.ofNat 4)), .val (.int c0), .val (.int c1), .val (.int c2), .val (.int c3)] [(.int c2), (.int (2 : Int32)), (.ref a256), (.ref a256), (.ref a246), (.ref a246)])) rfl rfl (hb hby dmake_105)
          have F291 := Fr.snoc X290 F281 ge259
          have F292 := Safe.wr W290 F284 F285 F282
          have F293 := F283.wr W290
          have F294 := Safe.wr W290 F284 F285 F284
          have F295 := CHv.wr W290 F284 F285
          have F296 := (Nat.le_trans F286 (Nat.le_of_eq (Wr.size W290).symm))
          have F297 := F287.wr W290 ge259
          have F298 := F288.wr W290 (Or.inr ng260)
          have F299 : Arv Z h290 a256 cA257 .char (4 : Int32) [(.int c0), (.int c1), (.int c2), (.int 0)] (.int 0) := by
            have q := Arv.set Ar290 q290 Sz290 Nn290 Hs290 Gs290 (fits_nar_char _) W290 2 rfl (Nat.le_of_ble_eq_true rfl)
            rw [own_n8 b2.1 b2.2] at q
            exact q
          refine own_step (T' := T290) (g' := (mkF m 106 #[.val (.int (Int32.ofNat 4)), .val (.int c0), .val (.int c1), .val (.int c2), .val (.int c3)] [(.ref a256), (.ref a246), (.ref a246)])) (fun _ kk => st290 _ kk) ?_
          refine own_step (T' := T290) (g' := (mkF m 107 #[.val (.int (Int32.ofNat 4)), .val (.int c0), .val (.int c1), .val (.int c2), .val (.int c3)] [(.ref a256), (.ref a256), (.ref a246), (.ref a246)])) (fun _ kk => XS.dup X290.here hx rfl (hb hby dmake_106) rfl rfl kk) ?_
          refine own_step (T' := T290) (g' := (mkF m 108 #[.val (.int (Int32.ofNat 4)), .val (.int c0), .val (.int c1), .val (.int c2), .val (.int c3)] [(.int (3 : Int32)), (.ref a256), (.ref a256), (.ref a246), (.ref a246)])) (fun _ kk => XS.iconst X290.here hx rfl (hb hby dmake_107) kk) ?_
          refine own_step (T' := T290) (g' := (mkF m 110 #[.val (.int (Int32.ofNat 4)), .val (.int c0), .val (.int c1), .val (.int c2), .val (.int c3)] [(.int c3), (.int (3 : Int32)), (.ref a256), (.ref a256), (.ref a246), (.ref a246)])) (fun _ kk => XS.iload X290.here hx rfl (hb hby dmake_108) rfl kk) ?_
          obtain ⟨Ac300, Ar300, q300, Sz300, Nn300, Hs300, Gs300⟩ := F299
          obtain ⟨T300, h300, X300, e300, W300, st300⟩ := stC X290 hx hZ e290 Ar300 (j := (3 : Int32)) (x := c3) (inb_of Sz300 ⟨by decide, by decide⟩) (g := (mkF m 110 #[.val (.int (Int32.ofNat 4)), .val (.int c0), .val (.int c1), .val (.int c2), .val (.int c3)] [(.int c3), (.int (3 : Int32)), (.ref a256), (.ref a256), (.ref a246), (.ref a246)])) rfl rfl (hb hby dmake_110)
          have F301 := Fr.snoc X300 F291 ge259
          have F302 := Safe.wr W300 F294 F295 F292
          have F303 := F293.wr W300
          have F304 := Safe.wr W300 F294 F295 F294
          have F305 := CHv.wr W300 F294 F295
          have F306 := (Nat.le_trans F296 (Nat.le_of_eq (Wr.size W300).symm))
          have F307 := F297.wr W300 ge259
          have F308 := F298.wr W300 (Or.inr ng260)
          have F309 : Arv Z h300 a256 cA257 .char (4 : Int32) [(.int c0), (.int c1), (.int c2), (.int c3)] (.int 0) := by
            have q := Arv.set Ar300 q300 Sz300 Nn300 Hs300 Gs300 (fits_nar_char _) W300 3 rfl (Nat.le_of_ble_eq_true rfl)
            rw [own_n8 b3.1 b3.2] at q
            exact q
          refine own_step (T' := T300) (g' := (mkF m 111 #[.val (.int (Int32.ofNat 4)), .val (.int c0), .val (.int c1), .val (.int c2), .val (.int c3)] [(.ref a256), (.ref a246), (.ref a246)])) (fun _ kk => st300 _ kk) ?_
          obtain ⟨u310, Fu310⟩ := F303.fld (w10 hw) (Or.inr (w24 hw) : Laid Z a0 "java/lang/String" "java/lang/String" "value" "[B")
          obtain ⟨y310, Fy310⟩ := F303.fld (w10 hw) (Or.inr (w25 hw) : Laid Z a0 "java/lang/String" "java/lang/String" "coder" "B")
          obtain ⟨T310, L310, _, h310, X310, e310, ⟨rfl, Nq310, Kq310, Eq310, Cq310, sb310, kb310, ga310, gb310, nb310, Vq310, Aq310⟩, st310⟩ := own_bcallC X300 hx hZ hown rfl (w12 hw) (w13 hw) (w14 hw) (by decide) (a := a246) (g := (mkF m 111 #[.val (.int (Int32.ofNat 4)), .val (.int c0), .val (.int c1), .val (.int c2), .val (.int c3)] [(.ref a256), (.ref a246), (.ref a246)])) rfl (by rw [hml]; rfl) (argsL := [.ref a256]) (rest := [(.ref a246)]) (StrChars.Road.backV (W := 1) hZ (own_hws hw) (kI := 4) (w10 hw) (cs := [c0, c1, c2, c3]) (n := 4) (n0 := Z.heap.size) ge248 (Nat.le_trans F307.2.1 (Nat.le_refl _)) F303.1 Fu310 Fy310 F309 (SC.ext F307.2) hzc rfl rfl (by decide) (by decide) (hB.take 4) rfl (by decide) (by decide)) e300 pd___C_V rfl rfl (by show 2 * 0 + _ ≤ _; exact Nat.le_of_eq rfl) (hb hby dmake_111) (by decide) (by decide)
          have F311 := Fr.app F301 Nq310
          have F312 := Safe.keep Kq310 (allS F302 all0) F305 F302
          have F313 := F303.keep Kq310
          have F314 := Safe.keep Kq310 (allS F302 all0) F305 F304
          have F315 := F309.keep Kq310 (ninS (Ne.symm ne258) nin0)
          have F316 := CHv.keep Kq310 (allS F302 all0) F305
          have F317 := Nat.le_trans F306 Kq310.1
          have F318 := F307.keep Kq310 (allS ge248 all0)
          have F319 := F308.trans Kq310 (allS (Or.inr ng249) all0)
          refine own_step (T' := T310) (g' := (mkF m 114 #[.val (.int (Int32.ofNat 4)), .val (.int c0), .val (.int c1), .val (.int c2), .val (.int c3)] [(.ref a246)])) (fun _ kk => st310 _ kk) ?_
          have F320 : own_Str Z h310 a246 [c0, c1, c2, c3] := ⟨_, _, F313.1, Cq310, Vq310, Aq310⟩
          exact own_retAW X310 hx hS0 F317 hlk (t := (.object "java/lang/String")) hret rfl rfl rfl (hb hby dmake_114) e310 ⟨_, rfl, F311, F319, F320⟩ (by decide) (by decide)
theorem dsk_0 : decode prog_7_method_3_code 0 = .ok (.iload_n 1, 1) := by decide +kernel
theorem dsk_1 : decode prog_7_method_3_code 1 = .ok (.istore_n 2, 1) := by decide +kernel
theorem dsk_2 : decode prog_7_method_3_code 2 = .ok (.iload_n 2, 1) := by decide +kernel
theorem dsk_3 : decode prog_7_method_3_code 3 = .ok (.aload_n 0, 1) := by decide +kernel
theorem dsk_4 : decode prog_7_method_3_code 4 = .ok (.invokevirtual 13, 3) := by decide +kernel
theorem dsk_7 : decode prog_7_method_3_code 7 = .ok (.if_icmp .ge 19, 3) := by decide +kernel
theorem dsk_10 : decode prog_7_method_3_code 10 = .ok (.aload_n 0, 1) := by decide +kernel
theorem dsk_11 : decode prog_7_method_3_code 11 = .ok (.iload_n 2, 1) := by decide +kernel
theorem dsk_12 : decode prog_7_method_3_code 12 = .ok (.invokevirtual 19, 3) := by decide +kernel
theorem dsk_15 : decode prog_7_method_3_code 15 = .ok (.bipush 32, 2) := by decide +kernel
theorem dsk_17 : decode prog_7_method_3_code 17 = .ok (.if_icmp .ne 9, 3) := by decide +kernel
theorem dsk_20 : decode prog_7_method_3_code 20 = .ok (.iinc 2 1, 3) := by decide +kernel
theorem dsk_23 : decode prog_7_method_3_code 23 = .ok (.goto (-21), 3) := by decide +kernel
theorem dsk_26 : decode prog_7_method_3_code 26 = .ok (.iload_n 2, 1) := by decide +kernel
theorem dsk_27 : decode prog_7_method_3_code 27 = .ok (.ireturn, 1) := by decide +kernel
set_option maxRecDepth 65536 in
set_option maxHeartbeats 40000000 in
theorem rm_sk (l : Launch) (Z : State) (a0 : Array Value) (hw : ∀ d ∈ tables_1, d.before a0 Z = true) (a1 : Addr) (f : Nat) (cs : List Int32) (zc : Int32) (fm : Value) (h0 : Heap) (O0 : Old Z Z.heap.size h0) (hstr : own_Str Z h0 a1 cs) (hB : own_B cs) (hl : cs.length ≤ 4000) (hf : f ≤ cs.length) (SC : Sta Z Z.heap "java/lang/String" "COMPACT_STRINGS" "Z" (.int zc)) (hzc : ¬ zc = (0 : Int32)) (SI : Sta Z Z.heap "jdk/internal/util/Preconditions" "SIOOBE_FORMATTER" "Ljava/util/function/BiFunction;" fm) (rfm : fm.isRef = true) :
    own_Con l Z (⟨"com/example/idemkey/idemkey/key/StructuredFieldString", "skipSpaces", "(Ljava/lang/String;I)I"⟩ : MethodName) prog_7_method_3_code 3 (some .int) ({ frames := 4, cells := 0, slots := 0, locals := 60 } : Room) #[(.ref a1), (.int (Int32.ofNat f))] h0 (fun v h L => ∃ r : Nat, v = some (.int (Int32.ofNat r)) ∧ Fr Z.heap.size L ∧ h = h0 ∧ f ≤ r ∧ r ≤ cs.length ∧ (r < cs.length → cs.getD r 0 ≠ (32 : Int32)) ∧ ∀ i, f ≤ i → i < r → cs.getD i 0 = (32 : Int32)) := by
  refine own_con (ls := #[.val (.ref a1), .val (.int (Int32.ofNat f)), .unset]) (pn_com_example_idemkey_idemkey_key_StructuredFieldString) (fun m => by first | (simp [entryFrame, mkF, argsToLocals, Value.category]; done) | rfl) ?_
  intro p e s m below meth c s₁ hx hby hml0 hown0 hnm0 hret0 hlk hZ X0 e0
  have hml : c.maxLocals = 3 := hml0
  have hown : s.vm.findClass "com/example/idemkey/idemkey/key/StructuredFieldString" = some m.cls := hown0
  have hnm : meth.name = "skipSpaces" := hnm0
  have hret : meth.sig.returnType = (some .int) := hret0
  have F321 := Fr.nil Z.heap.size
  have F322 := Keep.refl h0 []
  obtain ⟨st, kb, Es, Cs, Vs, As⟩ := hstr
  have hb2 : ∀ c ∈ cs, ¬ c < 0 ∧ ¬ (65535 : Int32) < c := fun c hc => own_up (hB c hc)
  have hcod := StrChars.Road.codOf (cs := cs) rfl (fun c hc => (hB c hc).2)
  refine own_step (T' := s₁) (g' := (mkF m 1 #[.val (.ref a1), .val (.int (Int32.ofNat f)), .unset] [(.int (Int32.ofNat f))])) (fun _ kk => XS.iloadN X0.here hx rfl (hb hby dsk_0) rfl kk) ?_
  refine own_step (T' := s₁) (g' := (mkF m 2 #[.val (.ref a1), .val (.int (Int32.ofNat f)), .val (.int (Int32.ofNat f))] [])) (fun _ kk => XS.istoreN X0.here hx rfl (hb hby dsk_1) rfl (l' := #[.val (.ref a1), .val (.int (Int32.ofNat f)), .val (.int (Int32.ofNat f))]) rfl kk) ?_
  have lp : ∀ (k i : Nat) (T : State) (locs : List Loc), i + k = cs.length → f ≤ i → (∀ j, f ≤ j → j < i → cs.getD j 0 = (32 : Int32)) → Stand p l e ({ frames := 4, cells := 0, slots := 0, locals := 60 } : Room) s m #[.ref a1, .int (Int32.ofNat f)] below meth c T locs 0 0 → T.heap = h0 → Fr Z.heap.size locs → own_Fin p e below (own_PostN s ({ frames := 4, cells := 0, slots := 0, locals := 60 } : Room) (fun v h L => ∃ r : Nat, v = some (.int (Int32.ofNat r)) ∧ Fr Z.heap.size L ∧ h = h0 ∧ f ≤ r ∧ r ≤ cs.length ∧ (r < cs.length → cs.getD r 0 ≠ (32 : Int32)) ∧ ∀ i, f ≤ i → i < r → cs.getD i 0 = (32 : Int32))) T (mkF m 2 #[.val (.ref a1), .val (.int (Int32.ofNat f)), .val (.int (Int32.ofNat i))] []) := by
    intro k
    induction k with
    | zero =>
      intro i T locs hik hfi hsp X1 e1 N1
      refine own_step (T' := T) (g' := (mkF m 3 #[.val (.ref a1), .val (.int (Int32.ofNat f)), .val (.int (Int32.ofNat i))] [(.int (Int32.ofNat i))])) (fun _ kk => XS.iloadN X1.here hx rfl (hb hby dsk_2) rfl kk) ?_
      refine own_step (T' := T) (g' := (mkF m 4 #[.val (.ref a1), .val (.int (Int32.ofNat f)), .val (.int (Int32.ofNat i))] [(.ref a1), (.int (Int32.ofNat i))])) (fun _ kk => XS.aloadN X1.here hx rfl (hb hby dsk_3) rfl rfl kk) ?_
      obtain ⟨T323, L323, _, h323, X323, e323, ⟨rfl, el323, eh323⟩, st323⟩ := own_bcallV (nc := 0) (ns := 0) (Q := fun v h' L => v = some (.int (Int32.ofNat cs.length)) ∧ L = [] ∧ h' = h0) X1 hx hZ hown (w34 hw) (w35 hw) (w37 hw) (w36 hw) (by decide) Es (g := (mkF m 4 #[.val (.ref a1), .val (.int (Int32.ofNat f)), .val (.int (Int32.ofNat i))] [(.ref a1), (.int (Int32.ofNat i))])) rfl (by rw [hml]; rfl) (argsL := []) (rest := [(.int (Int32.ofNat i))]) (StrChars.Road.lenW (W := 1) hZ (own_hwsL hw) (kI := 4) (w10 hw) Es Vs Cs As hcod hb2 (SC.ext O0.2) hzc hl (by decide) (by decide)) e1 pd___I rfl rfl (by show 2 * 0 + _ ≤ _; exact Nat.le_of_eq rfl) (hb hby dsk_4) (by decide) (by decide)
      have F324 := own_frnil N1 el323
      have F325 := e323.trans eh323
      refine own_step (T' := T323) (g' := (mkF m 7 #[.val (.ref a1), .val (.int (Int32.ofNat f)), .val (.int (Int32.ofNat i))] [(.int (Int32.ofNat cs.length)), (.int (Int32.ofNat i))])) (fun _ kk => st323 _ kk) ?_
      refine own_step (T' := T323) (g' := (mkF m 26 #[.val (.ref a1), .val (.int (Int32.ofNat f)), .val (.int (Int32.ofNat i))] [])) (fun _ kk => XS.icmpYes X323.here hx rfl (pc0 := 7) (pc' := 26) rfl (hb hby dsk_7) rfl (flt (own_nltn (by omega) (by omega))).2.1 (by decide) (by decide) kk) ?_
      refine own_step (T' := T323) (g' := (mkF m 27 #[.val (.ref a1), .val (.int (Int32.ofNat f)), .val (.int (Int32.ofNat i))] [(.int (Int32.ofNat i))])) (fun _ kk => XS.iloadN X323.here hx rfl (hb hby dsk_26) rfl kk) ?_
      exact own_retI X323 hx hlk hret (hb hby dsk_27) F325 ⟨i, rfl, F324, rfl, hfi, by omega, fun q => absurd q (by omega), hsp⟩ (by decide) (by decide)
    | succ k ih =>
      intro i T locs hik hfi hsp X1 e1 N1
      refine own_step (T' := T) (g' := (mkF m 3 #[.val (.ref a1), .val (.int (Int32.ofNat f)), .val (.int (Int32.ofNat i))] [(.int (Int32.ofNat i))])) (fun _ kk => XS.iloadN X1.here hx rfl (hb hby dsk_2) rfl kk) ?_
      refine own_step (T' := T) (g' := (mkF m 4 #[.val (.ref a1), .val (.int (Int32.ofNat f)), .val (.int (Int32.ofNat i))] [(.ref a1), (.int (Int32.ofNat i))])) (fun _ kk => XS.aloadN X1.here hx rfl (hb hby dsk_3) rfl rfl kk) ?_
      obtain ⟨T326, L326, _, h326, X326, e326, ⟨rfl, el326, eh326⟩, st326⟩ := own_bcallV (nc := 0) (ns := 0) (Q := fun v h' L => v = some (.int (Int32.ofNat cs.length)) ∧ L = [] ∧ h' = h0) X1 hx hZ hown (w34 hw) (w35 hw) (w37 hw) (w36 hw) (by decide) Es (g := (mkF m 4 #[.val (.ref a1), .val (.int (Int32.ofNat f)), .val (.int (Int32.ofNat i))] [(.ref a1), (.int (Int32.ofNat i))])) rfl (by rw [hml]; rfl) (argsL := []) (rest := [(.int (Int32.ofNat i))]) (StrChars.Road.lenW (W := 1) hZ (own_hwsL hw) (kI := 4) (w10 hw) Es Vs Cs As hcod hb2 (SC.ext O0.2) hzc hl (by decide) (by decide)) e1 pd___I rfl rfl (by show 2 * 0 + _ ≤ _; exact Nat.le_of_eq rfl) (hb hby dsk_4) (by decide) (by decide)
      have F327 := own_frnil N1 el326
      have F328 := e326.trans eh326
      refine own_step (T' := T326) (g' := (mkF m 7 #[.val (.ref a1), .val (.int (Int32.ofNat f)), .val (.int (Int32.ofNat i))] [(.int (Int32.ofNat cs.length)), (.int (Int32.ofNat i))])) (fun _ kk => st326 _ kk) ?_
      refine own_step (T' := T326) (g' := (mkF m 10 #[.val (.ref a1), .val (.int (Int32.ofNat f)), .val (.int (Int32.ofNat i))] [])) (fun _ kk => XS.icmpNo X326.here hx rfl (hb hby dsk_7) rfl (tlt (own_ltn (by omega) (by omega))).2.1 kk) ?_
      refine own_step (T' := T326) (g' := (mkF m 11 #[.val (.ref a1), .val (.int (Int32.ofNat f)), .val (.int (Int32.ofNat i))] [(.ref a1)])) (fun _ kk => XS.aloadN X326.here hx rfl (hb hby dsk_10) rfl rfl kk) ?_
      refine own_step (T' := T326) (g' := (mkF m 12 #[.val (.ref a1), .val (.int (Int32.ofNat f)), .val (.int (Int32.ofNat i))] [(.int (Int32.ofNat i)), (.ref a1)])) (fun _ kk => XS.iloadN X326.here hx rfl (hb hby dsk_11) rfl kk) ?_
      obtain ⟨T329, L329, _, h329, X329, e329, ⟨rfl, el329, eh329⟩, st329⟩ := own_bcallV (nc := 0) (ns := 0) (Q := fun v h' L => v = some (.int (cs.getD i 0)) ∧ L = [] ∧ h' = h0) X326 hx hZ hown (w58 hw) (w59 hw) (w61 hw) (w60 hw) (by decide) Es (g := (mkF m 12 #[.val (.ref a1), .val (.int (Int32.ofNat f)), .val (.int (Int32.ofNat i))] [(.int (Int32.ofNat i)), (.ref a1)])) rfl (by rw [hml]; rfl) (argsL := [(.int (Int32.ofNat i))]) (rest := []) (StrChars.Road.chN (W := 0) hZ (own_hwsC hw) (kI := 4) (w10 hw) (i := i) Es Vs Cs As hcod hb2 (SC.ext O0.2) hzc (SI.ext O0.2) rfm hl (by omega) rfl (by decide) (by decide)) F328 pd__I_C rfl rfl (by show 2 * 0 + _ ≤ _; exact Nat.le_of_eq rfl) (hb hby dsk_12) (by decide) (by decide)
      have F330 := own_frnil F327 el329
      have F331 := e329.trans eh329
      refine own_step (T' := T329) (g' := (mkF m 15 #[.val (.ref a1), .val (.int (Int32.ofNat f)), .val (.int (Int32.ofNat i))] [(.int (cs.getD i 0))])) (fun _ kk => st329 _ kk) ?_
      refine own_step (T' := T329) (g' := (mkF m 17 #[.val (.ref a1), .val (.int (Int32.ofNat f)), .val (.int (Int32.ofNat i))] [(.int (32 : Int32)), (.int (cs.getD i 0))])) (fun _ kk => XS.bipush X329.here hx rfl (hb hby dsk_15) kk) ?_
      by_cases c332 : (cs.getD i 0) = (32 : Int32)
      · refine own_step (T' := T329) (g' := (mkF m 20 #[.val (.ref a1), .val (.int (Int32.ofNat f)), .val (.int (Int32.ofNat i))] [])) (fun _ kk => XS.icmpNo X329.here hx rfl (hb hby dsk_17) rfl (teq c332).2 kk) ?_
        refine own_step (T' := T329) (g' := (mkF m 23 #[.val (.ref a1), .val (.int (Int32.ofNat f)), .val (.int ((Int32.ofNat i) + (1 : Int32)))] [])) (fun _ kk => XS.iinc X329.here hx rfl (hb hby dsk_20) rfl (l' := #[.val (.ref a1), .val (.int (Int32.ofNat f)), .val (.int ((Int32.ofNat i) + (1 : Int32)))]) rfl kk) ?_
        refine own_step (T' := T329) (g' := (mkF m 2 #[.val (.ref a1), .val (.int (Int32.ofNat f)), .val (.int ((Int32.ofNat i) + (1 : Int32)))] [])) (fun _ kk => XS.goto X329.here hx rfl (pc0 := 23) (pc' := 2) rfl (hb hby dsk_23) (by decide) (by decide) kk) ?_
        rw [own_one]
        exact ih (i + 1) _ _ (by omega) (by omega) (fun j h1 h2 => by rcases Nat.lt_or_ge j i with q | q; exact hsp j h1 q; obtain rfl : j = i := (by omega); exact c332) X329 F331 F330
      · refine own_step (T' := T329) (g' := (mkF m 26 #[.val (.ref a1), .val (.int (Int32.ofNat f)), .val (.int (Int32.ofNat i))] [])) (fun _ kk => XS.icmpYes X329.here hx rfl (pc0 := 17) (pc' := 26) rfl (hb hby dsk_17) rfl (feq c332).2 (by decide) (by decide) kk) ?_
        refine own_step (T' := T329) (g' := (mkF m 27 #[.val (.ref a1), .val (.int (Int32.ofNat f)), .val (.int (Int32.ofNat i))] [(.int (Int32.ofNat i))])) (fun _ kk => XS.iloadN X329.here hx rfl (hb hby dsk_26) rfl kk) ?_
        exact own_retI X329 hx hlk hret (hb hby dsk_27) F331 ⟨i, rfl, F330, rfl, hfi, by omega, fun _ => c332, hsp⟩ (by decide) (by decide)
  exact lp (cs.length - f) f _ _ (by omega) (Nat.le_refl _) (fun j h1 h2 => absurd h1 (by omega)) X0 e0 F321
theorem dss_0 : decode method_4_code 0 = .ok (.iload_n 1, 1) := by decide +kernel
theorem dss_1 : decode method_4_code 1 = .ok (.iload_n 0, 1) := by decide +kernel
theorem dss_2 : decode method_4_code 2 = .ok (.if_icmp .gt 20, 3) := by decide +kernel
theorem dss_5 : decode method_4_code 5 = .ok (.iload_n 0, 1) := by decide +kernel
theorem dss_6 : decode method_4_code 6 = .ok (.iload_n 2, 1) := by decide +kernel
theorem dss_7 : decode method_4_code 7 = .ok (.if_icmp .ge 15, 3) := by decide +kernel
theorem dss_10 : decode method_4_code 10 = .ok (.iload_n 3, 1) := by decide +kernel
theorem dss_11 : decode method_4_code 11 = .ok (.bipush 32, 2) := by decide +kernel
theorem dss_13 : decode method_4_code 13 = .ok (.if_icmp .ne 7, 3) := by decide +kernel
theorem dss_16 : decode method_4_code 16 = .ok (.iconst 1, 1) := by decide +kernel
theorem dss_17 : decode method_4_code 17 = .ok (.goto 4, 3) := by decide +kernel
theorem dss_20 : decode method_4_code 20 = .ok (.iconst 0, 1) := by decide +kernel
theorem dss_21 : decode method_4_code 21 = .ok (.ireturn, 1) := by decide +kernel
theorem dss_22 : decode method_4_code 22 = .ok (.iconst 1, 1) := by decide +kernel
theorem dss_23 : decode method_4_code 23 = .ok (.ireturn, 1) := by decide +kernel
set_option maxRecDepth 65536 in
set_option maxHeartbeats 40000000 in
theorem rm_ss (l : Launch) (Z : State) (a0 : Array Value) (hw : ∀ d ∈ tables_1, d.before a0 Z = true) (p1 p2 p3 p4 : Int32) (h0 : Heap) (O0 : Old Z Z.heap.size h0) (hh : ¬ p1 < p2 → p1 < p3 → p4 = (32 : Int32)) :
    own_Con l Z (⟨"com/example/idemkey/idemkey/key/StructuredFieldStringSkipSpacesPinLaw", "spaceIfSkipped", "(IIIC)Z"⟩ : MethodName) method_4_code 4 (some .boolean) ({ frames := 0, cells := 0, slots := 0, locals := 0 } : Room) #[(.int p1), (.int p2), (.int p3), (.int p4)] h0 (fun v h L => v = some (.int (1 : Int32)) ∧ Fr Z.heap.size L ∧ h = h0) := by
  refine own_con (ls := #[.val (.int p1), .val (.int p2), .val (.int p3), .val (.int p4)]) (pn_com_example_idemkey_idemkey_key_StructuredFieldStringSkipSpacesPinLaw) (fun m => by first | (simp [entryFrame, mkF, argsToLocals, Value.category]; done) | rfl) ?_
  intro p e s m below meth c s₁ hx hby hml0 hown0 hnm0 hret0 hlk hZ X0 e0
  have hml : c.maxLocals = 4 := hml0
  have hown : s.vm.findClass "com/example/idemkey/idemkey/key/StructuredFieldStringSkipSpacesPinLaw" = some m.cls := hown0
  have hnm : meth.name = "spaceIfSkipped" := hnm0
  have hret : meth.sig.returnType = (some .boolean) := hret0
  have F333 := Fr.nil Z.heap.size
  have F334 := Keep.refl h0 []
  refine own_step (T' := s₁) (g' := (mkF m 1 #[.val (.int p1), .val (.int p2), .val (.int p3), .val (.int p4)] [(.int p2)])) (fun _ kk => XS.iloadN X0.here hx rfl (hb hby dss_0) rfl kk) ?_
  refine own_step (T' := s₁) (g' := (mkF m 2 #[.val (.int p1), .val (.int p2), .val (.int p3), .val (.int p4)] [(.int p1), (.int p2)])) (fun _ kk => XS.iloadN X0.here hx rfl (hb hby dss_1) rfl kk) ?_
  by_cases c335 : p1 < p2
  · refine own_step (T' := s₁) (g' := (mkF m 22 #[.val (.int p1), .val (.int p2), .val (.int p3), .val (.int p4)] [])) (fun _ kk => XS.icmpYes X0.here hx rfl (pc0 := 2) (pc' := 22) rfl (hb hby dss_2) rfl (tlt c335).2.2.1 (by decide) (by decide) kk) ?_
    refine own_step (T' := s₁) (g' := (mkF m 23 #[.val (.int p1), .val (.int p2), .val (.int p3), .val (.int p4)] [(.int (1 : Int32))])) (fun _ kk => XS.iconst X0.here hx rfl (hb hby dss_22) kk) ?_
    exact own_retN X0 hx hlk (t := .boolean) hret (by simp) (hb hby dss_23) e0 ⟨rfl, F333, rfl⟩ (by decide) (by decide)
  · refine own_step (T' := s₁) (g' := (mkF m 5 #[.val (.int p1), .val (.int p2), .val (.int p3), .val (.int p4)] [])) (fun _ kk => XS.icmpNo X0.here hx rfl (hb hby dss_2) rfl (flt c335).2.2.1 kk) ?_
    refine own_step (T' := s₁) (g' := (mkF m 6 #[.val (.int p1), .val (.int p2), .val (.int p3), .val (.int p4)] [(.int p1)])) (fun _ kk => XS.iloadN X0.here hx rfl (hb hby dss_5) rfl kk) ?_
    refine own_step (T' := s₁) (g' := (mkF m 7 #[.val (.int p1), .val (.int p2), .val (.int p3), .val (.int p4)] [(.int p3), (.int p1)])) (fun _ kk => XS.iloadN X0.here hx rfl (hb hby dss_6) rfl kk) ?_
    by_cases c336 : p1 < p3
    · refine own_step (T' := s₁) (g' := (mkF m 10 #[.val (.int p1), .val (.int p2), .val (.int p3), .val (.int p4)] [])) (fun _ kk => XS.icmpNo X0.here hx rfl (hb hby dss_7) rfl (tlt c336).2.1 kk) ?_
      refine own_step (T' := s₁) (g' := (mkF m 11 #[.val (.int p1), .val (.int p2), .val (.int p3), .val (.int p4)] [(.int p4)])) (fun _ kk => XS.iloadN X0.here hx rfl (hb hby dss_10) rfl kk) ?_
      refine own_step (T' := s₁) (g' := (mkF m 13 #[.val (.int p1), .val (.int p2), .val (.int p3), .val (.int p4)] [(.int (32 : Int32)), (.int p4)])) (fun _ kk => XS.bipush X0.here hx rfl (hb hby dss_11) kk) ?_
      refine own_step (T' := s₁) (g' := (mkF m 16 #[.val (.int p1), .val (.int p2), .val (.int p3), .val (.int p4)] [])) (fun _ kk => XS.icmpNo X0.here hx rfl (hb hby dss_13) rfl (teq (hh c335 c336)).2 kk) ?_
      refine own_step (T' := s₁) (g' := (mkF m 17 #[.val (.int p1), .val (.int p2), .val (.int p3), .val (.int p4)] [(.int (1 : Int32))])) (fun _ kk => XS.iconst X0.here hx rfl (hb hby dss_16) kk) ?_
      refine own_step (T' := s₁) (g' := (mkF m 21 #[.val (.int p1), .val (.int p2), .val (.int p3), .val (.int p4)] [(.int (1 : Int32))])) (fun _ kk => XS.goto X0.here hx rfl (pc0 := 17) (pc' := 21) rfl (hb hby dss_17) (by decide) (by decide) kk) ?_
      exact own_retN X0 hx hlk (t := .boolean) hret (by simp) (hb hby dss_21) e0 ⟨rfl, F333, rfl⟩ (by decide) (by decide)
    · refine own_step (T' := s₁) (g' := (mkF m 22 #[.val (.int p1), .val (.int p2), .val (.int p3), .val (.int p4)] [])) (fun _ kk => XS.icmpYes X0.here hx rfl (pc0 := 7) (pc' := 22) rfl (hb hby dss_7) rfl (flt c336).2.1 (by decide) (by decide) kk) ?_
      refine own_step (T' := s₁) (g' := (mkF m 23 #[.val (.int p1), .val (.int p2), .val (.int p3), .val (.int p4)] [(.int (1 : Int32))])) (fun _ kk => XS.iconst X0.here hx rfl (hb hby dss_22) kk) ?_
      exact own_retN X0 hx hlk (t := .boolean) hret (by simp) (hb hby dss_23) e0 ⟨rfl, F333, rfl⟩ (by decide) (by decide)
set_option maxRecDepth 65536 in
set_option maxHeartbeats 40000000 in
theorem rm_law (l : Launch) (Z : State) (a0 : Array Value) (hw : ∀ d ∈ tables_1, d.before a0 Z = true) (p0 p1 p2 p3 p4 p5 zc : Int32) (fm : Value) (h0 : Heap) (O0 : Old Z Z.heap.size h0) (SC : Sta Z Z.heap "java/lang/String" "COMPACT_STRINGS" "Z" (.int zc)) (hzc : ¬ zc = (0 : Int32)) (SI : Sta Z Z.heap "jdk/internal/util/Preconditions" "SIOOBE_FORMATTER" "Ljava/util/function/BiFunction;" fm) (rfm : fm.isRef = true) :
    own_ConW l Z (fun vm => CHv Z consts_1 vm h0) x code maxLocals ret room_1 #[(.int p0), (.int p1), (.int p2), (.int p3), (.int p4), (.int p5)] h0 (fun v h L => v = some (.int 1) ∧ Fr Z.heap.size L) := by
  refine own_conW (ls := #[.val (.int p0), .val (.int p1), .val (.int p2), .val (.int p3), .val (.int p4), .val (.int p5), .unset, .unset, .unset, .unset, .unset, .unset, .unset, .unset, .unset]) (pn_com_example_idemkey_idemkey_key_StructuredFieldStringSkipSpacesPinLaw) (fun m => by first | (simp [entryFrame, mkF, argsToLocals, Value.category, maxLocals]; done) | rfl) ?_
  intro p e s m below meth c s₁ hx hby hml0 hown0 hnm0 hret0 hlk hZ X0 e0 hS0 hJ
  have hml : c.maxLocals = 15 := hml0
  have hown : s.vm.findClass "com/example/idemkey/idemkey/key/StructuredFieldStringSkipSpacesPinLaw" = some m.cls := hown0
  have hnm : meth.name = "law" := hnm0
  have hret : meth.sig.returnType = (some .boolean) := hret0
  have F337 := Fr.nil Z.heap.size
  have F338 := Keep.refl h0 []
  refine own_step (T' := s₁) (g' := (mkF m 1 #[.val (.int p0), .val (.int p1), .val (.int p2), .val (.int p3), .val (.int p4), .val (.int p5), .unset, .unset, .unset, .unset, .unset, .unset, .unset, .unset, .unset] [(.int p0)])) (fun _ kk => XS.iloadN X0.here hx rfl (hb hby at_0) rfl kk) ?_
  refine own_step (T' := s₁) (g' := (mkF m 3 #[.val (.int p0), .val (.int p1), .val (.int p2), .val (.int p3), .val (.int p4), .val (.int p5), .unset, .unset, .unset, .unset, .unset, .unset, .unset, .unset, .unset] [(.int (2147483647 : Int32)), (.int p0)])) (fun _ kk => X0.ldcInt hx hown (mvT hZ (w0 hw)) (g := (mkF m 1 #[.val (.int p0), .val (.int p1), .val (.int p2), .val (.int p3), .val (.int p4), .val (.int p5), .unset, .unset, .unset, .unset, .unset, .unset, .unset, .unset, .unset] [(.int p0)])) rfl (hb hby at_1) _ kk) ?_
  refine own_step (T' := s₁) (g' := (mkF m 4 #[.val (.int p0), .val (.int p1), .val (.int p2), .val (.int p3), .val (.int p4), .val (.int p5), .unset, .unset, .unset, .unset, .unset, .unset, .unset, .unset, .unset] [(.int (p0 &&& (2147483647 : Int32)))])) (fun _ kk => XS.iand X0.here hx rfl (hb hby at_3) rfl kk) ?_
  refine own_step (T' := s₁) (g' := (mkF m 5 #[.val (.int p0), .val (.int p1), .val (.int p2), .val (.int p3), .val (.int p4), .val (.int p5), .unset, .unset, .unset, .unset, .unset, .unset, .unset, .unset, .unset] [(.int (5 : Int32)), (.int (p0 &&& (2147483647 : Int32)))])) (fun _ kk => XS.iconst X0.here hx rfl (hb hby at_4) kk) ?_
  refine own_step (T' := s₁) (g' := (mkF m 6 #[.val (.int p0), .val (.int p1), .val (.int p2), .val (.int p3), .val (.int p4), .val (.int p5), .unset, .unset, .unset, .unset, .unset, .unset, .unset, .unset, .unset] [(.int ((p0 &&& (2147483647 : Int32)) % (5 : Int32)))])) (fun _ kk => iremM X0 hx rfl (hb hby at_5) rfl (by decide) kk) ?_
  obtain ⟨n, hn4, hn⟩ := own_len5 p0
  rw [hn]
  refine own_step (T' := s₁) (g' := (mkF m 8 #[.val (.int p0), .val (.int p1), .val (.int p2), .val (.int p3), .val (.int p4), .val (.int p5), .val (.int (Int32.ofNat n)), .unset, .unset, .unset, .unset, .unset, .unset, .unset, .unset] [])) (fun _ kk => XS.istore X0.here hx rfl (hb hby at_6) rfl (l' := #[.val (.int p0), .val (.int p1), .val (.int p2), .val (.int p3), .val (.int p4), .val (.int p5), .val (.int (Int32.ofNat n)), .unset, .unset, .unset, .unset, .unset, .unset, .unset, .unset]) rfl kk) ?_
  refine own_step (T' := s₁) (g' := (mkF m 9 #[.val (.int p0), .val (.int p1), .val (.int p2), .val (.int p3), .val (.int p4), .val (.int p5), .val (.int (Int32.ofNat n)), .unset, .unset, .unset, .unset, .unset, .unset, .unset, .unset] [(.int p1)])) (fun _ kk => XS.iloadN X0.here hx rfl (hb hby at_8) rfl kk) ?_
  refine own_step (T' := s₁) (g' := (mkF m 11 #[.val (.int p0), .val (.int p1), .val (.int p2), .val (.int p3), .val (.int p4), .val (.int p5), .val (.int (Int32.ofNat n)), .unset, .unset, .unset, .unset, .unset, .unset, .unset, .unset] [(.int (2147483647 : Int32)), (.int p1)])) (fun _ kk => X0.ldcInt hx hown (mvT hZ (w0 hw)) (g := (mkF m 9 #[.val (.int p0), .val (.int p1), .val (.int p2), .val (.int p3), .val (.int p4), .val (.int p5), .val (.int (Int32.ofNat n)), .unset, .unset, .unset, .unset, .unset, .unset, .unset, .unset] [(.int p1)])) rfl (hb hby at_9) _ kk) ?_
  refine own_step (T' := s₁) (g' := (mkF m 12 #[.val (.int p0), .val (.int p1), .val (.int p2), .val (.int p3), .val (.int p4), .val (.int p5), .val (.int (Int32.ofNat n)), .unset, .unset, .unset, .unset, .unset, .unset, .unset, .unset] [(.int (p1 &&& (2147483647 : Int32)))])) (fun _ kk => XS.iand X0.here hx rfl (hb hby at_11) rfl kk) ?_
  refine own_step (T' := s₁) (g' := (mkF m 14 #[.val (.int p0), .val (.int p1), .val (.int p2), .val (.int p3), .val (.int p4), .val (.int p5), .val (.int (Int32.ofNat n)), .unset, .unset, .unset, .unset, .unset, .unset, .unset, .unset] [(.int (Int32.ofNat n)), (.int (p1 &&& (2147483647 : Int32)))])) (fun _ kk => XS.iload X0.here hx rfl (hb hby at_12) rfl kk) ?_
  refine own_step (T' := s₁) (g' := (mkF m 15 #[.val (.int p0), .val (.int p1), .val (.int p2), .val (.int p3), .val (.int p4), .val (.int p5), .val (.int (Int32.ofNat n)), .unset, .unset, .unset, .unset, .unset, .unset, .unset, .unset] [(.int (1 : Int32)), (.int (Int32.ofNat n)), (.int (p1 &&& (2147483647 : Int32)))])) (fun _ kk => XS.iconst X0.here hx rfl (hb hby at_14) kk) ?_
  refine own_step (T' := s₁) (g' := (mkF m 16 #[.val (.int p0), .val (.int p1), .val (.int p2), .val (.int p3), .val (.int p4), .val (.int p5), .val (.int (Int32.ofNat n)), .unset, .unset, .unset, .unset, .unset, .unset, .unset, .unset] [(.int ((Int32.ofNat n) + (1 : Int32))), (.int (p1 &&& (2147483647 : Int32)))])) (fun _ kk => XS.iadd X0.here hx rfl (hb hby at_15) rfl kk) ?_
  refine own_step (T' := s₁) (g' := (mkF m 17 #[.val (.int p0), .val (.int p1), .val (.int p2), .val (.int p3), .val (.int p4), .val (.int p5), .val (.int (Int32.ofNat n)), .unset, .unset, .unset, .unset, .unset, .unset, .unset, .unset] [(.int ((p1 &&& (2147483647 : Int32)) % ((Int32.ofNat n) + (1 : Int32))))])) (fun _ kk => iremM X0 hx rfl (hb hby at_16) rfl (own_n1ne hn4) kk) ?_
  obtain ⟨f, hfn, hf⟩ := own_from p1 hn4
  rw [hf]
  refine own_step (T' := s₁) (g' := (mkF m 19 #[.val (.int p0), .val (.int p1), .val (.int p2), .val (.int p3), .val (.int p4), .val (.int p5), .val (.int (Int32.ofNat n)), .val (.int (Int32.ofNat f)), .unset, .unset, .unset, .unset, .unset, .unset, .unset] [])) (fun _ kk => XS.istore X0.here hx rfl (hb hby at_17) rfl (l' := #[.val (.int p0), .val (.int p1), .val (.int p2), .val (.int p3), .val (.int p4), .val (.int p5), .val (.int (Int32.ofNat n)), .val (.int (Int32.ofNat f)), .unset, .unset, .unset, .unset, .unset, .unset, .unset]) rfl kk) ?_
  refine own_step (T' := s₁) (g' := (mkF m 20 #[.val (.int p0), .val (.int p1), .val (.int p2), .val (.int p3), .val (.int p4), .val (.int p5), .val (.int (Int32.ofNat n)), .val (.int (Int32.ofNat f)), .unset, .unset, .unset, .unset, .unset, .unset, .unset] [(.int p2)])) (fun _ kk => XS.iloadN X0.here hx rfl (hb hby at_19) rfl kk) ?_
  obtain ⟨T340, L340, _, h340, X340, e340, ⟨c0, rfl, Nq339, eh339, l339, u339⟩, st340⟩ := own_callS X0 hx hZ hown (w1 hw) (w2 hw) (w4 hw) (w3 hw) (by decide) (g := (mkF m 20 #[.val (.int p0), .val (.int p1), .val (.int p2), .val (.int p3), .val (.int p4), .val (.int p5), .val (.int (Int32.ofNat n)), .val (.int (Int32.ofNat f)), .unset, .unset, .unset, .unset, .unset, .unset, .unset] [(.int p2)])) rfl (by rw [hml]; rfl) (argsL := [(.int p2)]) (rest := []) (rm_ch l Z a0 hw p2 _ O0) e0 pd__I_C rfl rfl (W := 0) (by show 2 * 0 + _ ≤ _; exact Nat.le_of_eq rfl) (hb hby at_20) (by decide) (by decide) (by decide) (by decide)
  have F341 := Fr.app F337 Nq339
  have F342 := e340.trans eh339
  have b0 : 0 ≤ c0.toInt ∧ c0.toInt ≤ 255 := ⟨l339, u339⟩
  refine own_step (T' := T340) (g' := (mkF m 23 #[.val (.int p0), .val (.int p1), .val (.int p2), .val (.int p3), .val (.int p4), .val (.int p5), .val (.int (Int32.ofNat n)), .val (.int (Int32.ofNat f)), .unset, .unset, .unset, .unset, .unset, .unset, .unset] [(.int c0)])) (fun _ kk => st340 _ kk) ?_
  refine own_step (T' := T340) (g' := (mkF m 25 #[.val (.int p0), .val (.int p1), .val (.int p2), .val (.int p3), .val (.int p4), .val (.int p5), .val (.int (Int32.ofNat n)), .val (.int (Int32.ofNat f)), .val (.int c0), .unset, .unset, .unset, .unset, .unset, .unset] [])) (fun _ kk => XS.istore X340.here hx rfl (hb hby at_23) rfl (l' := #[.val (.int p0), .val (.int p1), .val (.int p2), .val (.int p3), .val (.int p4), .val (.int p5), .val (.int (Int32.ofNat n)), .val (.int (Int32.ofNat f)), .val (.int c0), .unset, .unset, .unset, .unset, .unset, .unset]) rfl kk) ?_
  refine own_step (T' := T340) (g' := (mkF m 26 #[.val (.int p0), .val (.int p1), .val (.int p2), .val (.int p3), .val (.int p4), .val (.int p5), .val (.int (Int32.ofNat n)), .val (.int (Int32.ofNat f)), .val (.int c0), .unset, .unset, .unset, .unset, .unset, .unset] [(.int p3)])) (fun _ kk => XS.iloadN X340.here hx rfl (hb hby at_25) rfl kk) ?_
  obtain ⟨T344, L344, _, h344, X344, e344, ⟨c1, rfl, Nq343, eh343, l343, u343⟩, st344⟩ := own_callS X340 hx hZ hown (w1 hw) (w2 hw) (w4 hw) (w3 hw) (by decide) (g := (mkF m 26 #[.val (.int p0), .val (.int p1), .val (.int p2), .val (.int p3), .val (.int p4), .val (.int p5), .val (.int (Int32.ofNat n)), .val (.int (Int32.ofNat f)), .val (.int c0), .unset, .unset, .unset, .unset, .unset, .unset] [(.int p3)])) rfl (by rw [hml]; rfl) (argsL := [(.int p3)]) (rest := []) (rm_ch l Z a0 hw p3 _ O0) F342 pd__I_C rfl rfl (W := 0) (by show 2 * 0 + _ ≤ _; exact Nat.le_of_eq rfl) (hb hby at_26) (by decide) (by decide) (by decide) (by decide)
  have F345 := Fr.app F341 Nq343
  have F346 := e344.trans eh343
  have b1 : 0 ≤ c1.toInt ∧ c1.toInt ≤ 255 := ⟨l343, u343⟩
  refine own_step (T' := T344) (g' := (mkF m 29 #[.val (.int p0), .val (.int p1), .val (.int p2), .val (.int p3), .val (.int p4), .val (.int p5), .val (.int (Int32.ofNat n)), .val (.int (Int32.ofNat f)), .val (.int c0), .unset, .unset, .unset, .unset, .unset, .unset] [(.int c1)])) (fun _ kk => st344 _ kk) ?_
  refine own_step (T' := T344) (g' := (mkF m 31 #[.val (.int p0), .val (.int p1), .val (.int p2), .val (.int p3), .val (.int p4), .val (.int p5), .val (.int (Int32.ofNat n)), .val (.int (Int32.ofNat f)), .val (.int c0), .val (.int c1), .unset, .unset, .unset, .unset, .unset] [])) (fun _ kk => XS.istore X344.here hx rfl (hb hby at_29) rfl (l' := #[.val (.int p0), .val (.int p1), .val (.int p2), .val (.int p3), .val (.int p4), .val (.int p5), .val (.int (Int32.ofNat n)), .val (.int (Int32.ofNat f)), .val (.int c0), .val (.int c1), .unset, .unset, .unset, .unset, .unset]) rfl kk) ?_
  refine own_step (T' := T344) (g' := (mkF m 33 #[.val (.int p0), .val (.int p1), .val (.int p2), .val (.int p3), .val (.int p4), .val (.int p5), .val (.int (Int32.ofNat n)), .val (.int (Int32.ofNat f)), .val (.int c0), .val (.int c1), .unset, .unset, .unset, .unset, .unset] [(.int p4)])) (fun _ kk => XS.iload X344.here hx rfl (hb hby at_31) rfl kk) ?_
  obtain ⟨T348, L348, _, h348, X348, e348, ⟨c2, rfl, Nq347, eh347, l347, u347⟩, st348⟩ := own_callS X344 hx hZ hown (w1 hw) (w2 hw) (w4 hw) (w3 hw) (by decide) (g := (mkF m 33 #[.val (.int p0), .val (.int p1), .val (.int p2), .val (.int p3), .val (.int p4), .val (.int p5), .val (.int (Int32.ofNat n)), .val (.int (Int32.ofNat f)), .val (.int c0), .val (.int c1), .unset, .unset, .unset, .unset, .unset] [(.int p4)])) rfl (by rw [hml]; rfl) (argsL := [(.int p4)]) (rest := []) (rm_ch l Z a0 hw p4 _ O0) F346 pd__I_C rfl rfl (W := 0) (by show 2 * 0 + _ ≤ _; exact Nat.le_of_eq rfl) (hb hby at_33) (by decide) (by decide) (by decide) (by decide)
  have F349 := Fr.app F345 Nq347
  have F350 := e348.trans eh347
  have b2 : 0 ≤ c2.toInt ∧ c2.toInt ≤ 255 := ⟨l347, u347⟩
  refine own_step (T' := T348) (g' := (mkF m 36 #[.val (.int p0), .val (.int p1), .val (.int p2), .val (.int p3), .val (.int p4), .val (.int p5), .val (.int (Int32.ofNat n)), .val (.int (Int32.ofNat f)), .val (.int c0), .val (.int c1), .unset, .unset, .unset, .unset, .unset] [(.int c2)])) (fun _ kk => st348 _ kk) ?_
  refine own_step (T' := T348) (g' := (mkF m 38 #[.val (.int p0), .val (.int p1), .val (.int p2), .val (.int p3), .val (.int p4), .val (.int p5), .val (.int (Int32.ofNat n)), .val (.int (Int32.ofNat f)), .val (.int c0), .val (.int c1), .val (.int c2), .unset, .unset, .unset, .unset] [])) (fun _ kk => XS.istore X348.here hx rfl (hb hby at_36) rfl (l' := #[.val (.int p0), .val (.int p1), .val (.int p2), .val (.int p3), .val (.int p4), .val (.int p5), .val (.int (Int32.ofNat n)), .val (.int (Int32.ofNat f)), .val (.int c0), .val (.int c1), .val (.int c2), .unset, .unset, .unset, .unset]) rfl kk) ?_
  refine own_step (T' := T348) (g' := (mkF m 40 #[.val (.int p0), .val (.int p1), .val (.int p2), .val (.int p3), .val (.int p4), .val (.int p5), .val (.int (Int32.ofNat n)), .val (.int (Int32.ofNat f)), .val (.int c0), .val (.int c1), .val (.int c2), .unset, .unset, .unset, .unset] [(.int p5)])) (fun _ kk => XS.iload X348.here hx rfl (hb hby at_38) rfl kk) ?_
  obtain ⟨T352, L352, _, h352, X352, e352, ⟨c3, rfl, Nq351, eh351, l351, u351⟩, st352⟩ := own_callS X348 hx hZ hown (w1 hw) (w2 hw) (w4 hw) (w3 hw) (by decide) (g := (mkF m 40 #[.val (.int p0), .val (.int p1), .val (.int p2), .val (.int p3), .val (.int p4), .val (.int p5), .val (.int (Int32.ofNat n)), .val (.int (Int32.ofNat f)), .val (.int c0), .val (.int c1), .val (.int c2), .unset, .unset, .unset, .unset] [(.int p5)])) rfl (by rw [hml]; rfl) (argsL := [(.int p5)]) (rest := []) (rm_ch l Z a0 hw p5 _ O0) F350 pd__I_C rfl rfl (W := 0) (by show 2 * 0 + _ ≤ _; exact Nat.le_of_eq rfl) (hb hby at_40) (by decide) (by decide) (by decide) (by decide)
  have F353 := Fr.app F349 Nq351
  have F354 := e352.trans eh351
  have b3 : 0 ≤ c3.toInt ∧ c3.toInt ≤ 255 := ⟨l351, u351⟩
  refine own_step (T' := T352) (g' := (mkF m 43 #[.val (.int p0), .val (.int p1), .val (.int p2), .val (.int p3), .val (.int p4), .val (.int p5), .val (.int (Int32.ofNat n)), .val (.int (Int32.ofNat f)), .val (.int c0), .val (.int c1), .val (.int c2), .unset, .unset, .unset, .unset] [(.int c3)])) (fun _ kk => st352 _ kk) ?_
  refine own_step (T' := T352) (g' := (mkF m 45 #[.val (.int p0), .val (.int p1), .val (.int p2), .val (.int p3), .val (.int p4), .val (.int p5), .val (.int (Int32.ofNat n)), .val (.int (Int32.ofNat f)), .val (.int c0), .val (.int c1), .val (.int c2), .val (.int c3), .unset, .unset, .unset] [])) (fun _ kk => XS.istore X352.here hx rfl (hb hby at_43) rfl (l' := #[.val (.int p0), .val (.int p1), .val (.int p2), .val (.int p3), .val (.int p4), .val (.int p5), .val (.int (Int32.ofNat n)), .val (.int (Int32.ofNat f)), .val (.int c0), .val (.int c1), .val (.int c2), .val (.int c3), .unset, .unset, .unset]) rfl kk) ?_
  refine own_step (T' := T352) (g' := (mkF m 46 #[.val (.int p0), .val (.int p1), .val (.int p2), .val (.int p3), .val (.int p4), .val (.int p5), .val (.int (Int32.ofNat n)), .val (.int (Int32.ofNat f)), .val (.int c0), .val (.int c1), .val (.int c2), .val (.int c3), .unset, .unset, .unset] [(.int (4 : Int32))])) (fun _ kk => XS.iconst X352.here hx rfl (hb hby at_45) kk) ?_
  have hB : own_B [c0, c1, c2, c3] := fun c hc => by
    simp only [List.mem_cons, List.not_mem_nil, or_false] at hc
    rcases hc with rfl | rfl | rfl | rfl
    · exact own_c8 b0.1 b0.2
    · exact own_c8 b1.1 b1.2
    · exact own_c8 b2.1 b2.2
    · exact own_c8 b3.1 b3.2
  obtain ⟨T356, h356, cA356, X356, e356, E356, A356, st356⟩ := newP X352 hx hZ (aty := .char) (w5 hw) F354 (g := (mkF m 46 #[.val (.int p0), .val (.int p1), .val (.int p2), .val (.int p3), .val (.int p4), .val (.int p5), .val (.int (Int32.ofNat n)), .val (.int (Int32.ofNat f)), .val (.int c0), .val (.int c1), .val (.int c2), .val (.int c3), .unset, .unset, .unset] [(.int (4 : Int32))])) rfl (hb hby at_46) rfl (by decide) (cap := 4) (by decide) (by decide) (by decide) (by decide)
  obtain ⟨a355, g356⟩ : ∃ z, z = h0.size := ⟨_, rfl⟩
  rw [← g356] at A356 st356
  have ge357 : Z.heap.size ≤ a355 := by rw [g356]; exact O0.2.1
  have ng358 : h0.size ≤ a355 := by rw [g356]; exact F338.1
  have F359 := CHv.ext E356 hJ
  have F360 := Nat.le_trans (Nat.zero_le _) E356.1
  have F361 := O0.ext E356
  have F362 := F338.ext E356
  have F363 := Safe.ext E356 hJ (Safe.new (Nat.le_of_eq g356.symm))
  have F364 : Arv Z h356 a355 cA356 .char (4 : Int32) [] (.int 0) := Arv.new A356 (by decide)
  refine own_step (T' := T356) (g' := (mkF m 48 #[.val (.int p0), .val (.int p1), .val (.int p2), .val (.int p3), .val (.int p4), .val (.int p5), .val (.int (Int32.ofNat n)), .val (.int (Int32.ofNat f)), .val (.int c0), .val (.int c1), .val (.int c2), .val (.int c3), .unset, .unset, .unset] [(.ref a355)])) (fun _ kk => st356 _ kk) ?_
  have F365 : Arv Z h356 a355 cA356 .char (4 : Int32) [(.int 0), (.int 0), (.int 0), (.int 0)] (.int 0) := Arv.pad F364 (pad_rep [] (.int 0) 4)
  refine own_step (T' := T356) (g' := (mkF m 49 #[.val (.int p0), .val (.int p1), .val (.int p2), .val (.int p3), .val (.int p4), .val (.int p5), .val (.int (Int32.ofNat n)), .val (.int (Int32.ofNat f)), .val (.int c0), .val (.int c1), .val (.int c2), .val (.int c3), .unset, .unset, .unset] [(.ref a355), (.ref a355)])) (fun _ kk => XS.dup X356.here hx rfl (hb hby at_48) rfl rfl kk) ?_
  refine own_step (T' := T356) (g' := (mkF m 50 #[.val (.int p0), .val (.int p1), .val (.int p2), .val (.int p3), .val (.int p4), .val (.int p5), .val (.int (Int32.ofNat n)), .val (.int (Int32.ofNat f)), .val (.int c0), .val (.int c1), .val (.int c2), .val (.int c3), .unset, .unset, .unset] [(.int (0 : Int32)), (.ref a355), (.ref a355)])) (fun _ kk => XS.iconst X356.here hx rfl (hb hby at_49) kk) ?_
  refine own_step (T' := T356) (g' := (mkF m 52 #[.val (.int p0), .val (.int p1), .val (.int p2), .val (.int p3), .val (.int p4), .val (.int p5), .val (.int (Int32.ofNat n)), .val (.int (Int32.ofNat f)), .val (.int c0), .val (.int c1), .val (.int c2), .val (.int c3), .unset, .unset, .unset] [(.int c0), (.int (0 : Int32)), (.ref a355), (.ref a355)])) (fun _ kk => XS.iload X356.here hx rfl (hb hby at_50) rfl kk) ?_
  obtain ⟨Ac366, Ar366, q366, Sz366, Nn366, Hs366, Gs366⟩ := F365
  obtain ⟨T366, h366, X366, e366, W366, st366⟩ := stC X356 hx hZ e356 Ar366 (j := (0 : Int32)) (x := c0) (inb_of Sz366 ⟨by decide, by decide⟩) (g := (mkF m 52 #[.val (.int p0), .val (.int p1), .val (.int p2), .val (.int p3), .val (.int p4), .val (.int p5), .val (.int (Int32.ofNat n)), .val (.int (Int32.ofNat f)), .val (.int c0), .val (.int c1), .val (.int c2), .val (.int c3), .unset, .unset, .unset] [(.int c0), (.int (0 : Int32)), (.ref a355), (.ref a355)])) rfl rfl (hb hby at_52)
  have F367 := Fr.snoc X366 F353 ge357
  have F368 := Safe.wr W366 F363 F359 F363
  have F369 := CHv.wr W366 F363 F359
  have F370 := (Nat.le_trans F360 (Nat.le_of_eq (Wr.size W366).symm))
  have F371 := F361.wr W366 ge357
  have F372 := F362.wr W366 (Or.inr ng358)
  have F373 : Arv Z h366 a355 cA356 .char (4 : Int32) [(.int c0), (.int 0), (.int 0), (.int 0)] (.int 0) := by
    have q := Arv.set Ar366 q366 Sz366 Nn366 Hs366 Gs366 (fits_nar_char _) W366 0 rfl (Nat.le_of_ble_eq_true rfl)
    rw [own_n8 b0.1 b0.2] at q
    exact q
  refine own_step (T' := T366) (g' := (mkF m 53 #[.val (.int p0), .val (.int p1), .val (.int p2), .val (.int p3), .val (.int p4), .val (.int p5), .val (.int (Int32.ofNat n)), .val (.int (Int32.ofNat f)), .val (.int c0), .val (.int c1), .val (.int c2), .val (.int c3), .unset, .unset, .unset] [(.ref a355)])) (fun _ kk => st366 _ kk) ?_
  refine own_step (T' := T366) (g' := (mkF m 54 #[.val (.int p0), .val (.int p1), .val (.int p2), .val (.int p3), .val (.int p4), .val (.int p5), .val (.int (Int32.ofNat n)), .val (.int (Int32.ofNat f)), .val (.int c0), .val (.int c1), .val (.int c2), .val (.int c3), .unset, .unset, .unset] [(.ref a355), (.ref a355)])) (fun _ kk => XS.dup X366.here hx rfl (hb hby at_53) rfl rfl kk) ?_
  refine own_step (T' := T366) (g' := (mkF m 55 #[.val (.int p0), .val (.int p1), .val (.int p2), .val (.int p3), .val (.int p4), .val (.int p5), .val (.int (Int32.ofNat n)), .val (.int (Int32.ofNat f)), .val (.int c0), .val (.int c1), .val (.int c2), .val (.int c3), .unset, .unset, .unset] [(.int (1 : Int32)), (.ref a355), (.ref a355)])) (fun _ kk => XS.iconst X366.here hx rfl (hb hby at_54) kk) ?_
  refine own_step (T' := T366) (g' := (mkF m 57 #[.val (.int p0), .val (.int p1), .val (.int p2), .val (.int p3), .val (.int p4), .val (.int p5), .val (.int (Int32.ofNat n)), .val (.int (Int32.ofNat f)), .val (.int c0), .val (.int c1), .val (.int c2), .val (.int c3), .unset, .unset, .unset] [(.int c1), (.int (1 : Int32)), (.ref a355), (.ref a355)])) (fun _ kk => XS.iload X366.here hx rfl (hb hby at_55) rfl kk) ?_
  obtain ⟨Ac374, Ar374, q374, Sz374, Nn374, Hs374, Gs374⟩ := F373
  obtain ⟨T374, h374, X374, e374, W374, st374⟩ := stC X366 hx hZ e366 Ar374 (j := (1 : Int32)) (x := c1) (inb_of Sz374 ⟨by decide, by decide⟩) (g := (mkF m 57 #[.val (.int p0), .val (.int p1), .val (.int p2), .val (.int p3), .val (.int p4), .val (.int p5), .val (.int (Int32.ofNat n)), .val (.int (Int32.ofNat f)), .val (.int c0), .val (.int c1), .val (.int c2), .val (.int c3), .unset, .unset, .unset] [(.int c1), (.int (1 : Int32)), (.ref a355), (.ref a355)])) rfl rfl (hb hby at_57)
  have F375 := Fr.snoc X374 F367 ge357
  have F376 := Safe.wr W374 F368 F369 F368
  have F377 := CHv.wr W374 F368 F369
  have F378 := (Nat.le_trans F370 (Nat.le_of_eq (Wr.size W374).symm))
  have F379 := F371.wr W374 ge357
  have F380 := F372.wr W374 (Or.inr ng358)
  have F381 : Arv Z h374 a355 cA356 .char (4 : Int32) [(.int c0), (.int c1), (.int 0), (.int 0)] (.int 0) := by
    have q := Arv.set Ar374 q374 Sz374 Nn374 Hs374 Gs374 (fits_nar_char _) W374 1 rfl (Nat.le_of_ble_eq_true rfl)
    rw [own_n8 b1.1 b1.2] at q
    exact q
  refine own_step (T' := T374) (g' := (mkF m 58 #[.val (.int p0), .val (.int p1), .val (.int p2), .val (.int p3), .val (.int p4), .val (.int p5), .val (.int (Int32.ofNat n)), .val (.int (Int32.ofNat f)), .val (.int c0), .val (.int c1), .val (.int c2), .val (.int c3), .unset, .unset, .unset] [(.ref a355)])) (fun _ kk => st374 _ kk) ?_
  refine own_step (T' := T374) (g' := (mkF m 59 #[.val (.int p0), .val (.int p1), .val (.int p2), .val (.int p3), .val (.int p4), .val (.int p5), .val (.int (Int32.ofNat n)), .val (.int (Int32.ofNat f)), .val (.int c0), .val (.int c1), .val (.int c2), .val (.int c3), .unset, .unset, .unset] [(.ref a355), (.ref a355)])) (fun _ kk => XS.dup X374.here hx rfl (hb hby at_58) rfl rfl kk) ?_
  refine own_step (T' := T374) (g' := (mkF m 60 #[.val (.int p0), .val (.int p1), .val (.int p2), .val (.int p3), .val (.int p4), .val (.int p5), .val (.int (Int32.ofNat n)), .val (.int (Int32.ofNat f)), .val (.int c0), .val (.int c1), .val (.int c2), .val (.int c3), .unset, .unset, .unset] [(.int (2 : Int32)), (.ref a355), (.ref a355)])) (fun _ kk => XS.iconst X374.here hx rfl (hb hby at_59) kk) ?_
  refine own_step (T' := T374) (g' := (mkF m 62 #[.val (.int p0), .val (.int p1), .val (.int p2), .val (.int p3), .val (.int p4), .val (.int p5), .val (.int (Int32.ofNat n)), .val (.int (Int32.ofNat f)), .val (.int c0), .val (.int c1), .val (.int c2), .val (.int c3), .unset, .unset, .unset] [(.int c2), (.int (2 : Int32)), (.ref a355), (.ref a355)])) (fun _ kk => XS.iload X374.here hx rfl (hb hby at_60) rfl kk) ?_
  obtain ⟨Ac382, Ar382, q382, Sz382, Nn382, Hs382, Gs382⟩ := F381
  obtain ⟨T382, h382, X382, e382, W382, st382⟩ := stC X374 hx hZ e374 Ar382 (j := (2 : Int32)) (x := c2) (inb_of Sz382 ⟨by decide, by decide⟩) (g := (mkF m 62 #[.val (.int p0), .val (.int p1), .val (.int p2), .val (.int p3), .val (.int p4), .val (.int p5), .val (.int (Int32.ofNat n)), .val (.int (Int32.ofNat f)), .val (.int c0), .val (.int c1), .val (.int c2), .val (.int c3), .unset, .unset, .unset] [(.int c2), (.int (2 : Int32)), (.ref a355), (.ref a355)])) rfl rfl (hb hby at_62)
  have F383 := Fr.snoc X382 F375 ge357
  have F384 := Safe.wr W382 F376 F377 F376
  have F385 := CHv.wr W382 F376 F377
  have F386 := (Nat.le_trans F378 (Nat.le_of_eq (Wr.size W382).symm))
  have F387 := F379.wr W382 ge357
  have F388 := F380.wr W382 (Or.inr ng358)
  have F389 : Arv Z h382 a355 cA356 .char (4 : Int32) [(.int c0), (.int c1), (.int c2), (.int 0)] (.int 0) := by
    have q := Arv.set Ar382 q382 Sz382 Nn382 Hs382 Gs382 (fits_nar_char _) W382 2 rfl (Nat.le_of_ble_eq_true rfl)
    rw [own_n8 b2.1 b2.2] at q
    exact q
  refine own_step (T' := T382) (g' := (mkF m 63 #[.val (.int p0), .val (.int p1), .val (.int p2), .val (.int p3), .val (.int p4), .val (.int p5), .val (.int (Int32.ofNat n)), .val (.int (Int32.ofNat f)), .val (.int c0), .val (.int c1), .val (.int c2), .val (.int c3), .unset, .unset, .unset] [(.ref a355)])) (fun _ kk => st382 _ kk) ?_
  refine own_step (T' := T382) (g' := (mkF m 64 #[.val (.int p0), .val (.int p1), .val (.int p2), .val (.int p3), .val (.int p4), .val (.int p5), .val (.int (Int32.ofNat n)), .val (.int (Int32.ofNat f)), .val (.int c0), .val (.int c1), .val (.int c2), .val (.int c3), .unset, .unset, .unset] [(.ref a355), (.ref a355)])) (fun _ kk => XS.dup X382.here hx rfl (hb hby at_63) rfl rfl kk) ?_
  refine own_step (T' := T382) (g' := (mkF m 65 #[.val (.int p0), .val (.int p1), .val (.int p2), .val (.int p3), .val (.int p4), .val (.int p5), .val (.int (Int32.ofNat n)), .val (.int (Int32.ofNat f)), .val (.int c0), .val (.int c1), .val (.int c2), .val (.int c3), .unset, .unset, .unset] [(.int (3 : Int32)), (.ref a355), (.ref a355)])) (fun _ kk => XS.iconst X382.here hx rfl (hb hby at_64) kk) ?_
  refine own_step (T' := T382) (g' := (mkF m 67 #[.val (.int p0), .val (.int p1), .val (.int p2), .val (.int p3), .val (.int p4), .val (.int p5), .val (.int (Int32.ofNat n)), .val (.int (Int32.ofNat f)), .val (.int c0), .val (.int c1), .val (.int c2), .val (.int c3), .unset, .unset, .unset] [(.int c3), (.int (3 : Int32)), (.ref a355), (.ref a355)])) (fun _ kk => XS.iload X382.here hx rfl (hb hby at_65) rfl kk) ?_
  obtain ⟨Ac390, Ar390, q390, Sz390, Nn390, Hs390, Gs390⟩ := F389
  obtain ⟨T390, h390, X390, e390, W390, st390⟩ := stC X382 hx hZ e382 Ar390 (j := (3 : Int32)) (x := c3) (inb_of Sz390 ⟨by decide, by decide⟩) (g := (mkF m 67 #[.val (.int p0), .val (.int p1), .val (.int p2), .val (.int p3), .val (.int p4), .val (.int p5), .val (.int (Int32.ofNat n)), .val (.int (Int32.ofNat f)), .val (.int c0), .val (.int c1), .val (.int c2), .val (.int c3), .unset, .unset, .unset] [(.int c3), (.int (3 : Int32)), (.ref a355), (.ref a355)])) rfl rfl (hb hby at_67)
  have F391 := Fr.snoc X390 F383 ge357
  have F392 := Safe.wr W390 F384 F385 F384
  have F393 := CHv.wr W390 F384 F385
  have F394 := (Nat.le_trans F386 (Nat.le_of_eq (Wr.size W390).symm))
  have F395 := F387.wr W390 ge357
  have F396 := F388.wr W390 (Or.inr ng358)
  have F397 : Arv Z h390 a355 cA356 .char (4 : Int32) [(.int c0), (.int c1), (.int c2), (.int c3)] (.int 0) := by
    have q := Arv.set Ar390 q390 Sz390 Nn390 Hs390 Gs390 (fits_nar_char _) W390 3 rfl (Nat.le_of_ble_eq_true rfl)
    rw [own_n8 b3.1 b3.2] at q
    exact q
  refine own_step (T' := T390) (g' := (mkF m 68 #[.val (.int p0), .val (.int p1), .val (.int p2), .val (.int p3), .val (.int p4), .val (.int p5), .val (.int (Int32.ofNat n)), .val (.int (Int32.ofNat f)), .val (.int c0), .val (.int c1), .val (.int c2), .val (.int c3), .unset, .unset, .unset] [(.ref a355)])) (fun _ kk => st390 _ kk) ?_
  refine own_step (T' := T390) (g' := (mkF m 70 #[.val (.int p0), .val (.int p1), .val (.int p2), .val (.int p3), .val (.int p4), .val (.int p5), .val (.int (Int32.ofNat n)), .val (.int (Int32.ofNat f)), .val (.int c0), .val (.int c1), .val (.int c2), .val (.int c3), .val (.ref a355), .unset, .unset] [])) (fun _ kk => XS.astore X390.here hx rfl (hb hby at_68) rfl rfl (l' := #[.val (.int p0), .val (.int p1), .val (.int p2), .val (.int p3), .val (.int p4), .val (.int p5), .val (.int (Int32.ofNat n)), .val (.int (Int32.ofNat f)), .val (.int c0), .val (.int c1), .val (.int c2), .val (.int c3), .val (.ref a355), .unset, .unset]) rfl kk) ?_
  refine own_step (T' := T390) (g' := (mkF m 72 #[.val (.int p0), .val (.int p1), .val (.int p2), .val (.int p3), .val (.int p4), .val (.int p5), .val (.int (Int32.ofNat n)), .val (.int (Int32.ofNat f)), .val (.int c0), .val (.int c1), .val (.int c2), .val (.int c3), .val (.ref a355), .unset, .unset] [(.int (Int32.ofNat n))])) (fun _ kk => XS.iload X390.here hx rfl (hb hby at_70) rfl kk) ?_
  refine own_step (T' := T390) (g' := (mkF m 74 #[.val (.int p0), .val (.int p1), .val (.int p2), .val (.int p3), .val (.int p4), .val (.int p5), .val (.int (Int32.ofNat n)), .val (.int (Int32.ofNat f)), .val (.int c0), .val (.int c1), .val (.int c2), .val (.int c3), .val (.ref a355), .unset, .unset] [(.int c0), (.int (Int32.ofNat n))])) (fun _ kk => XS.iload X390.here hx rfl (hb hby at_72) rfl kk) ?_
  refine own_step (T' := T390) (g' := (mkF m 76 #[.val (.int p0), .val (.int p1), .val (.int p2), .val (.int p3), .val (.int p4), .val (.int p5), .val (.int (Int32.ofNat n)), .val (.int (Int32.ofNat f)), .val (.int c0), .val (.int c1), .val (.int c2), .val (.int c3), .val (.ref a355), .unset, .unset] [(.int c1), (.int c0), (.int (Int32.ofNat n))])) (fun _ kk => XS.iload X390.here hx rfl (hb hby at_74) rfl kk) ?_
  refine own_step (T' := T390) (g' := (mkF m 78 #[.val (.int p0), .val (.int p1), .val (.int p2), .val (.int p3), .val (.int p4), .val (.int p5), .val (.int (Int32.ofNat n)), .val (.int (Int32.ofNat f)), .val (.int c0), .val (.int c1), .val (.int c2), .val (.int c3), .val (.ref a355), .unset, .unset] [(.int c2), (.int c1), (.int c0), (.int (Int32.ofNat n))])) (fun _ kk => XS.iload X390.here hx rfl (hb hby at_76) rfl kk) ?_
  refine own_step (T' := T390) (g' := (mkF m 80 #[.val (.int p0), .val (.int p1), .val (.int p2), .val (.int p3), .val (.int p4), .val (.int p5), .val (.int (Int32.ofNat n)), .val (.int (Int32.ofNat f)), .val (.int c0), .val (.int c1), .val (.int c2), .val (.int c3), .val (.ref a355), .unset, .unset] [(.int c3), (.int c2), (.int c1), (.int c0), (.int (Int32.ofNat n))])) (fun _ kk => XS.iload X390.here hx rfl (hb hby at_78) rfl kk) ?_
  obtain ⟨T398, L398, _, h398, X398, e398, hS398, hZ398, ho398, ⟨sx, rfl, Nm, Km, Sm⟩, st398⟩ := own_callSW X390 hx hZ hown hS0 F394 (w6 hw) (w7 hw) (w8 hw) (w3 hw) (by decide) (g := (mkF m 80 #[.val (.int p0), .val (.int p1), .val (.int p2), .val (.int p3), .val (.int p4), .val (.int p5), .val (.int (Int32.ofNat n)), .val (.int (Int32.ofNat f)), .val (.int c0), .val (.int c1), .val (.int c2), .val (.int c3), .val (.ref a355), .unset, .unset] [(.int c3), (.int c2), (.int c1), (.int c0), (.int (Int32.ofNat n))])) rfl (by rw [hml]; rfl) (argsL := [(.int (Int32.ofNat n)), (.int c0), (.int c1), (.int c2), (.int c3)]) (rest := []) (rm_make l Z a0 hw n (Int32.ofNat n) c0 c1 c2 c3 zc _ F395 rfl hn4 SC hzc b0 b1 b2 b3 hB) (fun m meth c A Y => (CHv.at Y hZ (own_EW hw) F393).1) e390 pd__ICCCC_Ljava_lang_String_ rfl rfl (W := 0) (by show 2 * 0 + _ ≤ _; exact Nat.le_of_eq rfl) (hb hby at_80) (by decide) (by decide) (by decide) (by decide)
  have F399 := Fr.app F391 Nm
  have F400 := F397.keep Km nin0
  have F401 := Nat.le_trans F394 Km.1
  have F402 := F395.keep Km all0
  have F403 := F396.trans Km all0
  refine own_step (T' := T398) (g' := (mkF m 83 #[.val (.int p0), .val (.int p1), .val (.int p2), .val (.int p3), .val (.int p4), .val (.int p5), .val (.int (Int32.ofNat n)), .val (.int (Int32.ofNat f)), .val (.int c0), .val (.int c1), .val (.int c2), .val (.int c3), .val (.ref a355), .unset, .unset] [(.ref sx)])) (fun _ kk => st398 _ kk) ?_
  refine own_step (T' := T398) (g' := (mkF m 85 #[.val (.int p0), .val (.int p1), .val (.int p2), .val (.int p3), .val (.int p4), .val (.int p5), .val (.int (Int32.ofNat n)), .val (.int (Int32.ofNat f)), .val (.int c0), .val (.int c1), .val (.int c2), .val (.int c3), .val (.ref a355), .val (.ref sx), .unset] [])) (fun _ kk => XS.astore X398.here hx rfl (hb hby at_83) rfl rfl (l' := #[.val (.int p0), .val (.int p1), .val (.int p2), .val (.int p3), .val (.int p4), .val (.int p5), .val (.int (Int32.ofNat n)), .val (.int (Int32.ofNat f)), .val (.int c0), .val (.int c1), .val (.int c2), .val (.int c3), .val (.ref a355), .val (.ref sx), .unset]) rfl kk) ?_
  refine own_step (T' := T398) (g' := (mkF m 87 #[.val (.int p0), .val (.int p1), .val (.int p2), .val (.int p3), .val (.int p4), .val (.int p5), .val (.int (Int32.ofNat n)), .val (.int (Int32.ofNat f)), .val (.int c0), .val (.int c1), .val (.int c2), .val (.int c3), .val (.ref a355), .val (.ref sx), .unset] [(.ref sx)])) (fun _ kk => XS.aload X398.here hx rfl (hb hby at_85) rfl rfl kk) ?_
  refine own_step (T' := T398) (g' := (mkF m 89 #[.val (.int p0), .val (.int p1), .val (.int p2), .val (.int p3), .val (.int p4), .val (.int p5), .val (.int (Int32.ofNat n)), .val (.int (Int32.ofNat f)), .val (.int c0), .val (.int c1), .val (.int c2), .val (.int c3), .val (.ref a355), .val (.ref sx), .unset] [(.int (Int32.ofNat f)), (.ref sx)])) (fun _ kk => XS.iload X398.here hx rfl (hb hby at_87) rfl kk) ?_
  obtain ⟨T405, L405, _, h405, X405, e405, ⟨r, rfl, Ns, ehs, hfr, hrn, hr32, hsp⟩, st405⟩ := own_callS X398 hx hZ398 ho398 (w30 hw) (w31 hw) (w33 hw) (w32 hw) (by decide) (g := (mkF m 89 #[.val (.int p0), .val (.int p1), .val (.int p2), .val (.int p3), .val (.int p4), .val (.int p5), .val (.int (Int32.ofNat n)), .val (.int (Int32.ofNat f)), .val (.int c0), .val (.int c1), .val (.int c2), .val (.int c3), .val (.ref a355), .val (.ref sx), .unset] [(.int (Int32.ofNat f)), (.ref sx)])) rfl (by rw [hml]; rfl) (argsL := [(.ref sx), (.int (Int32.ofNat f))]) (rest := []) (rm_sk l Z a0 hw sx f ([c0, c1, c2, c3].take n) zc fm _ F402 Sm (hB.take n) (by rw [own_takel hn4]; omega) (by rw [own_takel hn4]; exact hfn) SC hzc SI rfm) e398 pd__Ljava_lang_String_I_I rfl rfl (W := 0) (by show 2 * 0 + _ ≤ _; exact Nat.le_of_eq rfl) (hb hby at_89) (by decide) (by decide) (by decide) (by decide)
  have F406 := Fr.app F399 Ns
  have F407 := e405.trans ehs
  rw [own_takel hn4] at hrn hr32
  refine own_step (T' := T405) (g' := (mkF m 92 #[.val (.int p0), .val (.int p1), .val (.int p2), .val (.int p3), .val (.int p4), .val (.int p5), .val (.int (Int32.ofNat n)), .val (.int (Int32.ofNat f)), .val (.int c0), .val (.int c1), .val (.int c2), .val (.int c3), .val (.ref a355), .val (.ref sx), .unset] [(.int (Int32.ofNat r))])) (fun _ kk => st405 _ kk) ?_
  refine own_step (T' := T405) (g' := (mkF m 94 #[.val (.int p0), .val (.int p1), .val (.int p2), .val (.int p3), .val (.int p4), .val (.int p5), .val (.int (Int32.ofNat n)), .val (.int (Int32.ofNat f)), .val (.int c0), .val (.int c1), .val (.int c2), .val (.int c3), .val (.ref a355), .val (.ref sx), .val (.int (Int32.ofNat r))] [])) (fun _ kk => XS.istore X405.here hx rfl (hb hby at_92) rfl (l' := #[.val (.int p0), .val (.int p1), .val (.int p2), .val (.int p3), .val (.int p4), .val (.int p5), .val (.int (Int32.ofNat n)), .val (.int (Int32.ofNat f)), .val (.int c0), .val (.int c1), .val (.int c2), .val (.int c3), .val (.ref a355), .val (.ref sx), .val (.int (Int32.ofNat r))]) rfl kk) ?_
  refine own_step (T' := T405) (g' := (mkF m 96 #[.val (.int p0), .val (.int p1), .val (.int p2), .val (.int p3), .val (.int p4), .val (.int p5), .val (.int (Int32.ofNat n)), .val (.int (Int32.ofNat f)), .val (.int c0), .val (.int c1), .val (.int c2), .val (.int c3), .val (.ref a355), .val (.ref sx), .val (.int (Int32.ofNat r))] [(.int (Int32.ofNat r))])) (fun _ kk => XS.iload X405.here hx rfl (hb hby at_94) rfl kk) ?_
  refine own_step (T' := T405) (g' := (mkF m 98 #[.val (.int p0), .val (.int p1), .val (.int p2), .val (.int p3), .val (.int p4), .val (.int p5), .val (.int (Int32.ofNat n)), .val (.int (Int32.ofNat f)), .val (.int c0), .val (.int c1), .val (.int c2), .val (.int c3), .val (.ref a355), .val (.ref sx), .val (.int (Int32.ofNat r))] [(.int (Int32.ofNat f)), (.int (Int32.ofNat r))])) (fun _ kk => XS.iload X405.here hx rfl (hb hby at_96) rfl kk) ?_
  refine own_step (T' := T405) (g' := (mkF m 101 #[.val (.int p0), .val (.int p1), .val (.int p2), .val (.int p3), .val (.int p4), .val (.int p5), .val (.int (Int32.ofNat n)), .val (.int (Int32.ofNat f)), .val (.int c0), .val (.int c1), .val (.int c2), .val (.int c3), .val (.ref a355), .val (.ref sx), .val (.int (Int32.ofNat r))] [])) (fun _ kk => XS.icmpNo X405.here hx rfl (hb hby at_98) rfl (flt (own_nltn hfr (by omega))).1 kk) ?_
  refine own_step (T' := T405) (g' := (mkF m 103 #[.val (.int p0), .val (.int p1), .val (.int p2), .val (.int p3), .val (.int p4), .val (.int p5), .val (.int (Int32.ofNat n)), .val (.int (Int32.ofNat f)), .val (.int c0), .val (.int c1), .val (.int c2), .val (.int c3), .val (.ref a355), .val (.ref sx), .val (.int (Int32.ofNat r))] [(.int (Int32.ofNat r))])) (fun _ kk => XS.iload X405.here hx rfl (hb hby at_101) rfl kk) ?_
  refine own_step (T' := T405) (g' := (mkF m 105 #[.val (.int p0), .val (.int p1), .val (.int p2), .val (.int p3), .val (.int p4), .val (.int p5), .val (.int (Int32.ofNat n)), .val (.int (Int32.ofNat f)), .val (.int c0), .val (.int c1), .val (.int c2), .val (.int c3), .val (.ref a355), .val (.ref sx), .val (.int (Int32.ofNat r))] [(.int (Int32.ofNat n)), (.int (Int32.ofNat r))])) (fun _ kk => XS.iload X405.here hx rfl (hb hby at_103) rfl kk) ?_
  refine own_step (T' := T405) (g' := (mkF m 110 #[.val (.int p0), .val (.int p1), .val (.int p2), .val (.int p3), .val (.int p4), .val (.int p5), .val (.int (Int32.ofNat n)), .val (.int (Int32.ofNat f)), .val (.int c0), .val (.int c1), .val (.int c2), .val (.int c3), .val (.ref a355), .val (.ref sx), .val (.int (Int32.ofNat r))] [])) (fun _ kk => XS.icmpYes X405.here hx rfl (pc0 := 105) (pc' := 110) rfl (hb hby at_105) rfl (flt (own_nltn hrn (by omega))).2.2.2 (by decide) (by decide) kk) ?_
  refine own_step (T' := T405) (g' := (mkF m 112 #[.val (.int p0), .val (.int p1), .val (.int p2), .val (.int p3), .val (.int p4), .val (.int p5), .val (.int (Int32.ofNat n)), .val (.int (Int32.ofNat f)), .val (.int c0), .val (.int c1), .val (.int c2), .val (.int c3), .val (.ref a355), .val (.ref sx), .val (.int (Int32.ofNat r))] [(.int (Int32.ofNat r))])) (fun _ kk => XS.iload X405.here hx rfl (hb hby at_110) rfl kk) ?_
  refine own_step (T' := T405) (g' := (mkF m 114 #[.val (.int p0), .val (.int p1), .val (.int p2), .val (.int p3), .val (.int p4), .val (.int p5), .val (.int (Int32.ofNat n)), .val (.int (Int32.ofNat f)), .val (.int c0), .val (.int c1), .val (.int c2), .val (.int c3), .val (.ref a355), .val (.ref sx), .val (.int (Int32.ofNat r))] [(.int (Int32.ofNat n)), (.int (Int32.ofNat r))])) (fun _ kk => XS.iload X405.here hx rfl (hb hby at_112) rfl kk) ?_
  by_cases c408 : (Int32.ofNat r) < (Int32.ofNat n)
  · refine own_step (T' := T405) (g' := (mkF m 117 #[.val (.int p0), .val (.int p1), .val (.int p2), .val (.int p3), .val (.int p4), .val (.int p5), .val (.int (Int32.ofNat n)), .val (.int (Int32.ofNat f)), .val (.int c0), .val (.int c1), .val (.int c2), .val (.int c3), .val (.ref a355), .val (.ref sx), .val (.int (Int32.ofNat r))] [])) (fun _ kk => XS.icmpNo X405.here hx rfl (hb hby at_114) rfl (tlt c408).2.1 kk) ?_
    have hrl : r < n := Nat.lt_of_not_le fun q => own_nltn q (by omega) c408
    refine own_step (T' := T405) (g' := (mkF m 119 #[.val (.int p0), .val (.int p1), .val (.int p2), .val (.int p3), .val (.int p4), .val (.int p5), .val (.int (Int32.ofNat n)), .val (.int (Int32.ofNat f)), .val (.int c0), .val (.int c1), .val (.int c2), .val (.int c3), .val (.ref a355), .val (.ref sx), .val (.int (Int32.ofNat r))] [(.ref a355)])) (fun _ kk => XS.aload X405.here hx rfl (hb hby at_117) rfl rfl kk) ?_
    refine own_step (T' := T405) (g' := (mkF m 121 #[.val (.int p0), .val (.int p1), .val (.int p2), .val (.int p3), .val (.int p4), .val (.int p5), .val (.int (Int32.ofNat n)), .val (.int (Int32.ofNat f)), .val (.int c0), .val (.int c1), .val (.int c2), .val (.int c3), .val (.ref a355), .val (.ref sx), .val (.int (Int32.ofNat r))] [(.int (Int32.ofNat r)), (.ref a355)])) (fun _ kk => XS.iload X405.here hx rfl (hb hby at_119) rfl kk) ?_
    refine own_step (T' := T405) (g' := (mkF m 122 #[.val (.int p0), .val (.int p1), .val (.int p2), .val (.int p3), .val (.int p4), .val (.int p5), .val (.int (Int32.ofNat n)), .val (.int (Int32.ofNat f)), .val (.int c0), .val (.int c1), .val (.int c2), .val (.int c3), .val (.ref a355), .val (.ref sx), .val (.int (Int32.ofNat r))] [(.int ([c0, c1, c2, c3].getD r 0))])) (fun _ kk => own_caload X405 hx hZ398 F407 F400 ⟨own_nneg (by rw [Int32.toInt_ofNat_of_lt (by omega)]; omega), own_ltn (n := 4) (by omega) (by decide)⟩ (own_at4 (by omega)) (g := (mkF m 121 #[.val (.int p0), .val (.int p1), .val (.int p2), .val (.int p3), .val (.int p4), .val (.int p5), .val (.int (Int32.ofNat n)), .val (.int (Int32.ofNat f)), .val (.int c0), .val (.int c1), .val (.int c2), .val (.int c3), .val (.ref a355), .val (.ref sx), .val (.int (Int32.ofNat r))] [(.int (Int32.ofNat r)), (.ref a355)])) rfl rfl (hb hby at_121) _ kk) ?_
    refine own_step (T' := T405) (g' := (mkF m 124 #[.val (.int p0), .val (.int p1), .val (.int p2), .val (.int p3), .val (.int p4), .val (.int p5), .val (.int (Int32.ofNat n)), .val (.int (Int32.ofNat f)), .val (.int c0), .val (.int c1), .val (.int c2), .val (.int c3), .val (.ref a355), .val (.ref sx), .val (.int (Int32.ofNat r))] [(.int (32 : Int32)), (.int ([c0, c1, c2, c3].getD r 0))])) (fun _ kk => XS.bipush X405.here hx rfl (hb hby at_122) kk) ?_
    refine own_step (T' := T405) (g' := (mkF m 129 #[.val (.int p0), .val (.int p1), .val (.int p2), .val (.int p3), .val (.int p4), .val (.int p5), .val (.int (Int32.ofNat n)), .val (.int (Int32.ofNat f)), .val (.int c0), .val (.int c1), .val (.int c2), .val (.int c3), .val (.ref a355), .val (.ref sx), .val (.int (Int32.ofNat r))] [])) (fun _ kk => XS.icmpYes X405.here hx rfl (pc0 := 124) (pc' := 129) rfl (hb hby at_124) rfl (feq (by have q := hr32 hrl; rw [own_take hrl] at q; exact q)).2 (by decide) (by decide) kk) ?_
    refine own_step (T' := T405) (g' := (mkF m 130 #[.val (.int p0), .val (.int p1), .val (.int p2), .val (.int p3), .val (.int p4), .val (.int p5), .val (.int (Int32.ofNat n)), .val (.int (Int32.ofNat f)), .val (.int c0), .val (.int c1), .val (.int c2), .val (.int c3), .val (.ref a355), .val (.ref sx), .val (.int (Int32.ofNat r))] [(.int (0 : Int32))])) (fun _ kk => XS.iconst X405.here hx rfl (hb hby at_129) kk) ?_
    refine own_step (T' := T405) (g' := (mkF m 132 #[.val (.int p0), .val (.int p1), .val (.int p2), .val (.int p3), .val (.int p4), .val (.int p5), .val (.int (Int32.ofNat n)), .val (.int (Int32.ofNat f)), .val (.int c0), .val (.int c1), .val (.int c2), .val (.int c3), .val (.ref a355), .val (.ref sx), .val (.int (Int32.ofNat r))] [(.int (Int32.ofNat f)), (.int (0 : Int32))])) (fun _ kk => XS.iload X405.here hx rfl (hb hby at_130) rfl kk) ?_
    refine own_step (T' := T405) (g' := (mkF m 134 #[.val (.int p0), .val (.int p1), .val (.int p2), .val (.int p3), .val (.int p4), .val (.int p5), .val (.int (Int32.ofNat n)), .val (.int (Int32.ofNat f)), .val (.int c0), .val (.int c1), .val (.int c2), .val (.int c3), .val (.ref a355), .val (.ref sx), .val (.int (Int32.ofNat r))] [(.int (Int32.ofNat r)), (.int (Int32.ofNat f)), (.int (0 : Int32))])) (fun _ kk => XS.iload X405.here hx rfl (hb hby at_132) rfl kk) ?_
    refine own_step (T' := T405) (g' := (mkF m 136 #[.val (.int p0), .val (.int p1), .val (.int p2), .val (.int p3), .val (.int p4), .val (.int p5), .val (.int (Int32.ofNat n)), .val (.int (Int32.ofNat f)), .val (.int c0), .val (.int c1), .val (.int c2), .val (.int c3), .val (.ref a355), .val (.ref sx), .val (.int (Int32.ofNat r))] [(.int c0), (.int (Int32.ofNat r)), (.int (Int32.ofNat f)), (.int (0 : Int32))])) (fun _ kk => XS.iload X405.here hx rfl (hb hby at_134) rfl kk) ?_
    obtain ⟨T410, L410, _, h410, X410, e410, ⟨rfl, Nq409, eh409⟩, st410⟩ := own_callS X405 hx hZ398 ho398 (w45 hw) (w46 hw) (w47 hw) (w3 hw) (by decide) (g := (mkF m 136 #[.val (.int p0), .val (.int p1), .val (.int p2), .val (.int p3), .val (.int p4), .val (.int p5), .val (.int (Int32.ofNat n)), .val (.int (Int32.ofNat f)), .val (.int c0), .val (.int c1), .val (.int c2), .val (.int c3), .val (.ref a355), .val (.ref sx), .val (.int (Int32.ofNat r))] [(.int c0), (.int (Int32.ofNat r)), (.int (Int32.ofNat f)), (.int (0 : Int32))])) rfl (by rw [hml]; rfl) (argsL := [(.int (0 : Int32)), (.int (Int32.ofNat f)), (.int (Int32.ofNat r)), (.int c0)]) (rest := []) (rm_ss l Z a0 hw (0 : Int32) (Int32.ofNat f) (Int32.ofNat r) c0 _ F402 (own_sp (k := 0) (l := [c0, c1, c2, c3]) (by decide) rfl hrn hn4 hfn hsp)) F407 pd__IIIC_Z rfl rfl (W := 0) (by show 2 * 0 + _ ≤ _; exact Nat.le_of_eq rfl) (hb hby at_136) (by decide) (by decide) (by decide) (by decide)
    have F411 := Fr.app F406 Nq409
    have F412 := e410.trans eh409
    refine own_step (T' := T410) (g' := (mkF m 139 #[.val (.int p0), .val (.int p1), .val (.int p2), .val (.int p3), .val (.int p4), .val (.int p5), .val (.int (Int32.ofNat n)), .val (.int (Int32.ofNat f)), .val (.int c0), .val (.int c1), .val (.int c2), .val (.int c3), .val (.ref a355), .val (.ref sx), .val (.int (Int32.ofNat r))] [(.int (1 : Int32))])) (fun _ kk => st410 _ kk) ?_
    refine own_step (T' := T410) (g' := (mkF m 142 #[.val (.int p0), .val (.int p1), .val (.int p2), .val (.int p3), .val (.int p4), .val (.int p5), .val (.int (Int32.ofNat n)), .val (.int (Int32.ofNat f)), .val (.int c0), .val (.int c1), .val (.int c2), .val (.int c3), .val (.ref a355), .val (.ref sx), .val (.int (Int32.ofNat r))] [])) (fun _ kk => XS.ifNo X410.here hx rfl (hb hby at_139) rfl ((if0 _ _).trans (feq (by decide)).1) kk) ?_
    refine own_step (T' := T410) (g' := (mkF m 143 #[.val (.int p0), .val (.int p1), .val (.int p2), .val (.int p3), .val (.int p4), .val (.int p5), .val (.int (Int32.ofNat n)), .val (.int (Int32.ofNat f)), .val (.int c0), .val (.int c1), .val (.int c2), .val (.int c3), .val (.ref a355), .val (.ref sx), .val (.int (Int32.ofNat r))] [(.int (1 : Int32))])) (fun _ kk => XS.iconst X410.here hx rfl (hb hby at_142) kk) ?_
    refine own_step (T' := T410) (g' := (mkF m 145 #[.val (.int p0), .val (.int p1), .val (.int p2), .val (.int p3), .val (.int p4), .val (.int p5), .val (.int (Int32.ofNat n)), .val (.int (Int32.ofNat f)), .val (.int c0), .val (.int c1), .val (.int c2), .val (.int c3), .val (.ref a355), .val (.ref sx), .val (.int (Int32.ofNat r))] [(.int (Int32.ofNat f)), (.int (1 : Int32))])) (fun _ kk => XS.iload X410.here hx rfl (hb hby at_143) rfl kk) ?_
    refine own_step (T' := T410) (g' := (mkF m 147 #[.val (.int p0), .val (.int p1), .val (.int p2), .val (.int p3), .val (.int p4), .val (.int p5), .val (.int (Int32.ofNat n)), .val (.int (Int32.ofNat f)), .val (.int c0), .val (.int c1), .val (.int c2), .val (.int c3), .val (.ref a355), .val (.ref sx), .val (.int (Int32.ofNat r))] [(.int (Int32.ofNat r)), (.int (Int32.ofNat f)), (.int (1 : Int32))])) (fun _ kk => XS.iload X410.here hx rfl (hb hby at_145) rfl kk) ?_
    refine own_step (T' := T410) (g' := (mkF m 149 #[.val (.int p0), .val (.int p1), .val (.int p2), .val (.int p3), .val (.int p4), .val (.int p5), .val (.int (Int32.ofNat n)), .val (.int (Int32.ofNat f)), .val (.int c0), .val (.int c1), .val (.int c2), .val (.int c3), .val (.ref a355), .val (.ref sx), .val (.int (Int32.ofNat r))] [(.int c1), (.int (Int32.ofNat r)), (.int (Int32.ofNat f)), (.int (1 : Int32))])) (fun _ kk => XS.iload X410.here hx rfl (hb hby at_147) rfl kk) ?_
    obtain ⟨T414, L414, _, h414, X414, e414, ⟨rfl, Nq413, eh413⟩, st414⟩ := own_callS X410 hx hZ398 ho398 (w45 hw) (w46 hw) (w47 hw) (w3 hw) (by decide) (g := (mkF m 149 #[.val (.int p0), .val (.int p1), .val (.int p2), .val (.int p3), .val (.int p4), .val (.int p5), .val (.int (Int32.ofNat n)), .val (.int (Int32.ofNat f)), .val (.int c0), .val (.int c1), .val (.int c2), .val (.int c3), .val (.ref a355), .val (.ref sx), .val (.int (Int32.ofNat r))] [(.int c1), (.int (Int32.ofNat r)), (.int (Int32.ofNat f)), (.int (1 : Int32))])) rfl (by rw [hml]; rfl) (argsL := [(.int (1 : Int32)), (.int (Int32.ofNat f)), (.int (Int32.ofNat r)), (.int c1)]) (rest := []) (rm_ss l Z a0 hw (1 : Int32) (Int32.ofNat f) (Int32.ofNat r) c1 _ F402 (own_sp (k := 1) (l := [c0, c1, c2, c3]) (by decide) rfl hrn hn4 hfn hsp)) F412 pd__IIIC_Z rfl rfl (W := 0) (by show 2 * 0 + _ ≤ _; exact Nat.le_of_eq rfl) (hb hby at_149) (by decide) (by decide) (by decide) (by decide)
    have F415 := Fr.app F411 Nq413
    have F416 := e414.trans eh413
    refine own_step (T' := T414) (g' := (mkF m 152 #[.val (.int p0), .val (.int p1), .val (.int p2), .val (.int p3), .val (.int p4), .val (.int p5), .val (.int (Int32.ofNat n)), .val (.int (Int32.ofNat f)), .val (.int c0), .val (.int c1), .val (.int c2), .val (.int c3), .val (.ref a355), .val (.ref sx), .val (.int (Int32.ofNat r))] [(.int (1 : Int32))])) (fun _ kk => st414 _ kk) ?_
    refine own_step (T' := T414) (g' := (mkF m 155 #[.val (.int p0), .val (.int p1), .val (.int p2), .val (.int p3), .val (.int p4), .val (.int p5), .val (.int (Int32.ofNat n)), .val (.int (Int32.ofNat f)), .val (.int c0), .val (.int c1), .val (.int c2), .val (.int c3), .val (.ref a355), .val (.ref sx), .val (.int (Int32.ofNat r))] [])) (fun _ kk => XS.ifNo X414.here hx rfl (hb hby at_152) rfl ((if0 _ _).trans (feq (by decide)).1) kk) ?_
    refine own_step (T' := T414) (g' := (mkF m 156 #[.val (.int p0), .val (.int p1), .val (.int p2), .val (.int p3), .val (.int p4), .val (.int p5), .val (.int (Int32.ofNat n)), .val (.int (Int32.ofNat f)), .val (.int c0), .val (.int c1), .val (.int c2), .val (.int c3), .val (.ref a355), .val (.ref sx), .val (.int (Int32.ofNat r))] [(.int (2 : Int32))])) (fun _ kk => XS.iconst X414.here hx rfl (hb hby at_155) kk) ?_
    refine own_step (T' := T414) (g' := (mkF m 158 #[.val (.int p0), .val (.int p1), .val (.int p2), .val (.int p3), .val (.int p4), .val (.int p5), .val (.int (Int32.ofNat n)), .val (.int (Int32.ofNat f)), .val (.int c0), .val (.int c1), .val (.int c2), .val (.int c3), .val (.ref a355), .val (.ref sx), .val (.int (Int32.ofNat r))] [(.int (Int32.ofNat f)), (.int (2 : Int32))])) (fun _ kk => XS.iload X414.here hx rfl (hb hby at_156) rfl kk) ?_
    refine own_step (T' := T414) (g' := (mkF m 160 #[.val (.int p0), .val (.int p1), .val (.int p2), .val (.int p3), .val (.int p4), .val (.int p5), .val (.int (Int32.ofNat n)), .val (.int (Int32.ofNat f)), .val (.int c0), .val (.int c1), .val (.int c2), .val (.int c3), .val (.ref a355), .val (.ref sx), .val (.int (Int32.ofNat r))] [(.int (Int32.ofNat r)), (.int (Int32.ofNat f)), (.int (2 : Int32))])) (fun _ kk => XS.iload X414.here hx rfl (hb hby at_158) rfl kk) ?_
    refine own_step (T' := T414) (g' := (mkF m 162 #[.val (.int p0), .val (.int p1), .val (.int p2), .val (.int p3), .val (.int p4), .val (.int p5), .val (.int (Int32.ofNat n)), .val (.int (Int32.ofNat f)), .val (.int c0), .val (.int c1), .val (.int c2), .val (.int c3), .val (.ref a355), .val (.ref sx), .val (.int (Int32.ofNat r))] [(.int c2), (.int (Int32.ofNat r)), (.int (Int32.ofNat f)), (.int (2 : Int32))])) (fun _ kk => XS.iload X414.here hx rfl (hb hby at_160) rfl kk) ?_
    obtain ⟨T418, L418, _, h418, X418, e418, ⟨rfl, Nq417, eh417⟩, st418⟩ := own_callS X414 hx hZ398 ho398 (w45 hw) (w46 hw) (w47 hw) (w3 hw) (by decide) (g := (mkF m 162 #[.val (.int p0), .val (.int p1), .val (.int p2), .val (.int p3), .val (.int p4), .val (.int p5), .val (.int (Int32.ofNat n)), .val (.int (Int32.ofNat f)), .val (.int c0), .val (.int c1), .val (.int c2), .val (.int c3), .val (.ref a355), .val (.ref sx), .val (.int (Int32.ofNat r))] [(.int c2), (.int (Int32.ofNat r)), (.int (Int32.ofNat f)), (.int (2 : Int32))])) rfl (by rw [hml]; rfl) (argsL := [(.int (2 : Int32)), (.int (Int32.ofNat f)), (.int (Int32.ofNat r)), (.int c2)]) (rest := []) (rm_ss l Z a0 hw (2 : Int32) (Int32.ofNat f) (Int32.ofNat r) c2 _ F402 (own_sp (k := 2) (l := [c0, c1, c2, c3]) (by decide) rfl hrn hn4 hfn hsp)) F416 pd__IIIC_Z rfl rfl (W := 0) (by show 2 * 0 + _ ≤ _; exact Nat.le_of_eq rfl) (hb hby at_162) (by decide) (by decide) (by decide) (by decide)
    have F419 := Fr.app F415 Nq417
    have F420 := e418.trans eh417
    refine own_step (T' := T418) (g' := (mkF m 165 #[.val (.int p0), .val (.int p1), .val (.int p2), .val (.int p3), .val (.int p4), .val (.int p5), .val (.int (Int32.ofNat n)), .val (.int (Int32.ofNat f)), .val (.int c0), .val (.int c1), .val (.int c2), .val (.int c3), .val (.ref a355), .val (.ref sx), .val (.int (Int32.ofNat r))] [(.int (1 : Int32))])) (fun _ kk => st418 _ kk) ?_
    refine own_step (T' := T418) (g' := (mkF m 168 #[.val (.int p0), .val (.int p1), .val (.int p2), .val (.int p3), .val (.int p4), .val (.int p5), .val (.int (Int32.ofNat n)), .val (.int (Int32.ofNat f)), .val (.int c0), .val (.int c1), .val (.int c2), .val (.int c3), .val (.ref a355), .val (.ref sx), .val (.int (Int32.ofNat r))] [])) (fun _ kk => XS.ifNo X418.here hx rfl (hb hby at_165) rfl ((if0 _ _).trans (feq (by decide)).1) kk) ?_
    refine own_step (T' := T418) (g' := (mkF m 169 #[.val (.int p0), .val (.int p1), .val (.int p2), .val (.int p3), .val (.int p4), .val (.int p5), .val (.int (Int32.ofNat n)), .val (.int (Int32.ofNat f)), .val (.int c0), .val (.int c1), .val (.int c2), .val (.int c3), .val (.ref a355), .val (.ref sx), .val (.int (Int32.ofNat r))] [(.int (3 : Int32))])) (fun _ kk => XS.iconst X418.here hx rfl (hb hby at_168) kk) ?_
    refine own_step (T' := T418) (g' := (mkF m 171 #[.val (.int p0), .val (.int p1), .val (.int p2), .val (.int p3), .val (.int p4), .val (.int p5), .val (.int (Int32.ofNat n)), .val (.int (Int32.ofNat f)), .val (.int c0), .val (.int c1), .val (.int c2), .val (.int c3), .val (.ref a355), .val (.ref sx), .val (.int (Int32.ofNat r))] [(.int (Int32.ofNat f)), (.int (3 : Int32))])) (fun _ kk => XS.iload X418.here hx rfl (hb hby at_169) rfl kk) ?_
    refine own_step (T' := T418) (g' := (mkF m 173 #[.val (.int p0), .val (.int p1), .val (.int p2), .val (.int p3), .val (.int p4), .val (.int p5), .val (.int (Int32.ofNat n)), .val (.int (Int32.ofNat f)), .val (.int c0), .val (.int c1), .val (.int c2), .val (.int c3), .val (.ref a355), .val (.ref sx), .val (.int (Int32.ofNat r))] [(.int (Int32.ofNat r)), (.int (Int32.ofNat f)), (.int (3 : Int32))])) (fun _ kk => XS.iload X418.here hx rfl (hb hby at_171) rfl kk) ?_
    refine own_step (T' := T418) (g' := (mkF m 175 #[.val (.int p0), .val (.int p1), .val (.int p2), .val (.int p3), .val (.int p4), .val (.int p5), .val (.int (Int32.ofNat n)), .val (.int (Int32.ofNat f)), .val (.int c0), .val (.int c1), .val (.int c2), .val (.int c3), .val (.ref a355), .val (.ref sx), .val (.int (Int32.ofNat r))] [(.int c3), (.int (Int32.ofNat r)), (.int (Int32.ofNat f)), (.int (3 : Int32))])) (fun _ kk => XS.iload X418.here hx rfl (hb hby at_173) rfl kk) ?_
    obtain ⟨T422, L422, _, h422, X422, e422, ⟨rfl, Nq421, eh421⟩, st422⟩ := own_callS X418 hx hZ398 ho398 (w45 hw) (w46 hw) (w47 hw) (w3 hw) (by decide) (g := (mkF m 175 #[.val (.int p0), .val (.int p1), .val (.int p2), .val (.int p3), .val (.int p4), .val (.int p5), .val (.int (Int32.ofNat n)), .val (.int (Int32.ofNat f)), .val (.int c0), .val (.int c1), .val (.int c2), .val (.int c3), .val (.ref a355), .val (.ref sx), .val (.int (Int32.ofNat r))] [(.int c3), (.int (Int32.ofNat r)), (.int (Int32.ofNat f)), (.int (3 : Int32))])) rfl (by rw [hml]; rfl) (argsL := [(.int (3 : Int32)), (.int (Int32.ofNat f)), (.int (Int32.ofNat r)), (.int c3)]) (rest := []) (rm_ss l Z a0 hw (3 : Int32) (Int32.ofNat f) (Int32.ofNat r) c3 _ F402 (own_sp (k := 3) (l := [c0, c1, c2, c3]) (by decide) rfl hrn hn4 hfn hsp)) F420 pd__IIIC_Z rfl rfl (W := 0) (by show 2 * 0 + _ ≤ _; exact Nat.le_of_eq rfl) (hb hby at_175) (by decide) (by decide) (by decide) (by decide)
    have F423 := Fr.app F419 Nq421
    have F424 := e422.trans eh421
    refine own_step (T' := T422) (g' := (mkF m 178 #[.val (.int p0), .val (.int p1), .val (.int p2), .val (.int p3), .val (.int p4), .val (.int p5), .val (.int (Int32.ofNat n)), .val (.int (Int32.ofNat f)), .val (.int c0), .val (.int c1), .val (.int c2), .val (.int c3), .val (.ref a355), .val (.ref sx), .val (.int (Int32.ofNat r))] [(.int (1 : Int32))])) (fun _ kk => st422 _ kk) ?_
    refine own_step (T' := T422) (g' := (mkF m 181 #[.val (.int p0), .val (.int p1), .val (.int p2), .val (.int p3), .val (.int p4), .val (.int p5), .val (.int (Int32.ofNat n)), .val (.int (Int32.ofNat f)), .val (.int c0), .val (.int c1), .val (.int c2), .val (.int c3), .val (.ref a355), .val (.ref sx), .val (.int (Int32.ofNat r))] [])) (fun _ kk => XS.ifNo X422.here hx rfl (hb hby at_178) rfl ((if0 _ _).trans (feq (by decide)).1) kk) ?_
    refine own_step (T' := T422) (g' := (mkF m 182 #[.val (.int p0), .val (.int p1), .val (.int p2), .val (.int p3), .val (.int p4), .val (.int p5), .val (.int (Int32.ofNat n)), .val (.int (Int32.ofNat f)), .val (.int c0), .val (.int c1), .val (.int c2), .val (.int c3), .val (.ref a355), .val (.ref sx), .val (.int (Int32.ofNat r))] [(.int (1 : Int32))])) (fun _ kk => XS.iconst X422.here hx rfl (hb hby at_181) kk) ?_
    refine own_step (T' := T422) (g' := (mkF m 186 #[.val (.int p0), .val (.int p1), .val (.int p2), .val (.int p3), .val (.int p4), .val (.int p5), .val (.int (Int32.ofNat n)), .val (.int (Int32.ofNat f)), .val (.int c0), .val (.int c1), .val (.int c2), .val (.int c3), .val (.ref a355), .val (.ref sx), .val (.int (Int32.ofNat r))] [(.int (1 : Int32))])) (fun _ kk => XS.goto X422.here hx rfl (pc0 := 182) (pc' := 186) rfl (hb hby at_182) (by decide) (by decide) kk) ?_
    exact own_retNW X422 hx hS398 (Nat.le_refl _) hlk (t := .boolean) hret (by simp) (hb hby at_186) F424 ⟨rfl, F423⟩ (by decide) (by decide)
  · refine own_step (T' := T405) (g' := (mkF m 129 #[.val (.int p0), .val (.int p1), .val (.int p2), .val (.int p3), .val (.int p4), .val (.int p5), .val (.int (Int32.ofNat n)), .val (.int (Int32.ofNat f)), .val (.int c0), .val (.int c1), .val (.int c2), .val (.int c3), .val (.ref a355), .val (.ref sx), .val (.int (Int32.ofNat r))] [])) (fun _ kk => XS.icmpYes X405.here hx rfl (pc0 := 114) (pc' := 129) rfl (hb hby at_114) rfl (flt c408).2.1 (by decide) (by decide) kk) ?_
    refine own_step (T' := T405) (g' := (mkF m 130 #[.val (.int p0), .val (.int p1), .val (.int p2), .val (.int p3), .val (.int p4), .val (.int p5), .val (.int (Int32.ofNat n)), .val (.int (Int32.ofNat f)), .val (.int c0), .val (.int c1), .val (.int c2), .val (.int c3), .val (.ref a355), .val (.ref sx), .val (.int (Int32.ofNat r))] [(.int (0 : Int32))])) (fun _ kk => XS.iconst X405.here hx rfl (hb hby at_129) kk) ?_
    refine own_step (T' := T405) (g' := (mkF m 132 #[.val (.int p0), .val (.int p1), .val (.int p2), .val (.int p3), .val (.int p4), .val (.int p5), .val (.int (Int32.ofNat n)), .val (.int (Int32.ofNat f)), .val (.int c0), .val (.int c1), .val (.int c2), .val (.int c3), .val (.ref a355), .val (.ref sx), .val (.int (Int32.ofNat r))] [(.int (Int32.ofNat f)), (.int (0 : Int32))])) (fun _ kk => XS.iload X405.here hx rfl (hb hby at_130) rfl kk) ?_
    refine own_step (T' := T405) (g' := (mkF m 134 #[.val (.int p0), .val (.int p1), .val (.int p2), .val (.int p3), .val (.int p4), .val (.int p5), .val (.int (Int32.ofNat n)), .val (.int (Int32.ofNat f)), .val (.int c0), .val (.int c1), .val (.int c2), .val (.int c3), .val (.ref a355), .val (.ref sx), .val (.int (Int32.ofNat r))] [(.int (Int32.ofNat r)), (.int (Int32.ofNat f)), (.int (0 : Int32))])) (fun _ kk => XS.iload X405.here hx rfl (hb hby at_132) rfl kk) ?_
    refine own_step (T' := T405) (g' := (mkF m 136 #[.val (.int p0), .val (.int p1), .val (.int p2), .val (.int p3), .val (.int p4), .val (.int p5), .val (.int (Int32.ofNat n)), .val (.int (Int32.ofNat f)), .val (.int c0), .val (.int c1), .val (.int c2), .val (.int c3), .val (.ref a355), .val (.ref sx), .val (.int (Int32.ofNat r))] [(.int c0), (.int (Int32.ofNat r)), (.int (Int32.ofNat f)), (.int (0 : Int32))])) (fun _ kk => XS.iload X405.here hx rfl (hb hby at_134) rfl kk) ?_
    obtain ⟨T426, L426, _, h426, X426, e426, ⟨rfl, Nq425, eh425⟩, st426⟩ := own_callS X405 hx hZ398 ho398 (w45 hw) (w46 hw) (w47 hw) (w3 hw) (by decide) (g := (mkF m 136 #[.val (.int p0), .val (.int p1), .val (.int p2), .val (.int p3), .val (.int p4), .val (.int p5), .val (.int (Int32.ofNat n)), .val (.int (Int32.ofNat f)), .val (.int c0), .val (.int c1), .val (.int c2), .val (.int c3), .val (.ref a355), .val (.ref sx), .val (.int (Int32.ofNat r))] [(.int c0), (.int (Int32.ofNat r)), (.int (Int32.ofNat f)), (.int (0 : Int32))])) rfl (by rw [hml]; rfl) (argsL := [(.int (0 : Int32)), (.int (Int32.ofNat f)), (.int (Int32.ofNat r)), (.int c0)]) (rest := []) (rm_ss l Z a0 hw (0 : Int32) (Int32.ofNat f) (Int32.ofNat r) c0 _ F402 (own_sp (k := 0) (l := [c0, c1, c2, c3]) (by decide) rfl hrn hn4 hfn hsp)) F407 pd__IIIC_Z rfl rfl (W := 0) (by show 2 * 0 + _ ≤ _; exact Nat.le_of_eq rfl) (hb hby at_136) (by decide) (by decide) (by decide) (by decide)
    have F427 := Fr.app F406 Nq425
    have F428 := e426.trans eh425
    refine own_step (T' := T426) (g' := (mkF m 139 #[.val (.int p0), .val (.int p1), .val (.int p2), .val (.int p3), .val (.int p4), .val (.int p5), .val (.int (Int32.ofNat n)), .val (.int (Int32.ofNat f)), .val (.int c0), .val (.int c1), .val (.int c2), .val (.int c3), .val (.ref a355), .val (.ref sx), .val (.int (Int32.ofNat r))] [(.int (1 : Int32))])) (fun _ kk => st426 _ kk) ?_
    refine own_step (T' := T426) (g' := (mkF m 142 #[.val (.int p0), .val (.int p1), .val (.int p2), .val (.int p3), .val (.int p4), .val (.int p5), .val (.int (Int32.ofNat n)), .val (.int (Int32.ofNat f)), .val (.int c0), .val (.int c1), .val (.int c2), .val (.int c3), .val (.ref a355), .val (.ref sx), .val (.int (Int32.ofNat r))] [])) (fun _ kk => XS.ifNo X426.here hx rfl (hb hby at_139) rfl ((if0 _ _).trans (feq (by decide)).1) kk) ?_
    refine own_step (T' := T426) (g' := (mkF m 143 #[.val (.int p0), .val (.int p1), .val (.int p2), .val (.int p3), .val (.int p4), .val (.int p5), .val (.int (Int32.ofNat n)), .val (.int (Int32.ofNat f)), .val (.int c0), .val (.int c1), .val (.int c2), .val (.int c3), .val (.ref a355), .val (.ref sx), .val (.int (Int32.ofNat r))] [(.int (1 : Int32))])) (fun _ kk => XS.iconst X426.here hx rfl (hb hby at_142) kk) ?_
    refine own_step (T' := T426) (g' := (mkF m 145 #[.val (.int p0), .val (.int p1), .val (.int p2), .val (.int p3), .val (.int p4), .val (.int p5), .val (.int (Int32.ofNat n)), .val (.int (Int32.ofNat f)), .val (.int c0), .val (.int c1), .val (.int c2), .val (.int c3), .val (.ref a355), .val (.ref sx), .val (.int (Int32.ofNat r))] [(.int (Int32.ofNat f)), (.int (1 : Int32))])) (fun _ kk => XS.iload X426.here hx rfl (hb hby at_143) rfl kk) ?_
    refine own_step (T' := T426) (g' := (mkF m 147 #[.val (.int p0), .val (.int p1), .val (.int p2), .val (.int p3), .val (.int p4), .val (.int p5), .val (.int (Int32.ofNat n)), .val (.int (Int32.ofNat f)), .val (.int c0), .val (.int c1), .val (.int c2), .val (.int c3), .val (.ref a355), .val (.ref sx), .val (.int (Int32.ofNat r))] [(.int (Int32.ofNat r)), (.int (Int32.ofNat f)), (.int (1 : Int32))])) (fun _ kk => XS.iload X426.here hx rfl (hb hby at_145) rfl kk) ?_
    refine own_step (T' := T426) (g' := (mkF m 149 #[.val (.int p0), .val (.int p1), .val (.int p2), .val (.int p3), .val (.int p4), .val (.int p5), .val (.int (Int32.ofNat n)), .val (.int (Int32.ofNat f)), .val (.int c0), .val (.int c1), .val (.int c2), .val (.int c3), .val (.ref a355), .val (.ref sx), .val (.int (Int32.ofNat r))] [(.int c1), (.int (Int32.ofNat r)), (.int (Int32.ofNat f)), (.int (1 : Int32))])) (fun _ kk => XS.iload X426.here hx rfl (hb hby at_147) rfl kk) ?_
    obtain ⟨T430, L430, _, h430, X430, e430, ⟨rfl, Nq429, eh429⟩, st430⟩ := own_callS X426 hx hZ398 ho398 (w45 hw) (w46 hw) (w47 hw) (w3 hw) (by decide) (g := (mkF m 149 #[.val (.int p0), .val (.int p1), .val (.int p2), .val (.int p3), .val (.int p4), .val (.int p5), .val (.int (Int32.ofNat n)), .val (.int (Int32.ofNat f)), .val (.int c0), .val (.int c1), .val (.int c2), .val (.int c3), .val (.ref a355), .val (.ref sx), .val (.int (Int32.ofNat r))] [(.int c1), (.int (Int32.ofNat r)), (.int (Int32.ofNat f)), (.int (1 : Int32))])) rfl (by rw [hml]; rfl) (argsL := [(.int (1 : Int32)), (.int (Int32.ofNat f)), (.int (Int32.ofNat r)), (.int c1)]) (rest := []) (rm_ss l Z a0 hw (1 : Int32) (Int32.ofNat f) (Int32.ofNat r) c1 _ F402 (own_sp (k := 1) (l := [c0, c1, c2, c3]) (by decide) rfl hrn hn4 hfn hsp)) F428 pd__IIIC_Z rfl rfl (W := 0) (by show 2 * 0 + _ ≤ _; exact Nat.le_of_eq rfl) (hb hby at_149) (by decide) (by decide) (by decide) (by decide)
    have F431 := Fr.app F427 Nq429
    have F432 := e430.trans eh429
    refine own_step (T' := T430) (g' := (mkF m 152 #[.val (.int p0), .val (.int p1), .val (.int p2), .val (.int p3), .val (.int p4), .val (.int p5), .val (.int (Int32.ofNat n)), .val (.int (Int32.ofNat f)), .val (.int c0), .val (.int c1), .val (.int c2), .val (.int c3), .val (.ref a355), .val (.ref sx), .val (.int (Int32.ofNat r))] [(.int (1 : Int32))])) (fun _ kk => st430 _ kk) ?_
    refine own_step (T' := T430) (g' := (mkF m 155 #[.val (.int p0), .val (.int p1), .val (.int p2), .val (.int p3), .val (.int p4), .val (.int p5), .val (.int (Int32.ofNat n)), .val (.int (Int32.ofNat f)), .val (.int c0), .val (.int c1), .val (.int c2), .val (.int c3), .val (.ref a355), .val (.ref sx), .val (.int (Int32.ofNat r))] [])) (fun _ kk => XS.ifNo X430.here hx rfl (hb hby at_152) rfl ((if0 _ _).trans (feq (by decide)).1) kk) ?_
    refine own_step (T' := T430) (g' := (mkF m 156 #[.val (.int p0), .val (.int p1), .val (.int p2), .val (.int p3), .val (.int p4), .val (.int p5), .val (.int (Int32.ofNat n)), .val (.int (Int32.ofNat f)), .val (.int c0), .val (.int c1), .val (.int c2), .val (.int c3), .val (.ref a355), .val (.ref sx), .val (.int (Int32.ofNat r))] [(.int (2 : Int32))])) (fun _ kk => XS.iconst X430.here hx rfl (hb hby at_155) kk) ?_
    refine own_step (T' := T430) (g' := (mkF m 158 #[.val (.int p0), .val (.int p1), .val (.int p2), .val (.int p3), .val (.int p4), .val (.int p5), .val (.int (Int32.ofNat n)), .val (.int (Int32.ofNat f)), .val (.int c0), .val (.int c1), .val (.int c2), .val (.int c3), .val (.ref a355), .val (.ref sx), .val (.int (Int32.ofNat r))] [(.int (Int32.ofNat f)), (.int (2 : Int32))])) (fun _ kk => XS.iload X430.here hx rfl (hb hby at_156) rfl kk) ?_
    refine own_step (T' := T430) (g' := (mkF m 160 #[.val (.int p0), .val (.int p1), .val (.int p2), .val (.int p3), .val (.int p4), .val (.int p5), .val (.int (Int32.ofNat n)), .val (.int (Int32.ofNat f)), .val (.int c0), .val (.int c1), .val (.int c2), .val (.int c3), .val (.ref a355), .val (.ref sx), .val (.int (Int32.ofNat r))] [(.int (Int32.ofNat r)), (.int (Int32.ofNat f)), (.int (2 : Int32))])) (fun _ kk => XS.iload X430.here hx rfl (hb hby at_158) rfl kk) ?_
    refine own_step (T' := T430) (g' := (mkF m 162 #[.val (.int p0), .val (.int p1), .val (.int p2), .val (.int p3), .val (.int p4), .val (.int p5), .val (.int (Int32.ofNat n)), .val (.int (Int32.ofNat f)), .val (.int c0), .val (.int c1), .val (.int c2), .val (.int c3), .val (.ref a355), .val (.ref sx), .val (.int (Int32.ofNat r))] [(.int c2), (.int (Int32.ofNat r)), (.int (Int32.ofNat f)), (.int (2 : Int32))])) (fun _ kk => XS.iload X430.here hx rfl (hb hby at_160) rfl kk) ?_
    obtain ⟨T434, L434, _, h434, X434, e434, ⟨rfl, Nq433, eh433⟩, st434⟩ := own_callS X430 hx hZ398 ho398 (w45 hw) (w46 hw) (w47 hw) (w3 hw) (by decide) (g := (mkF m 162 #[.val (.int p0), .val (.int p1), .val (.int p2), .val (.int p3), .val (.int p4), .val (.int p5), .val (.int (Int32.ofNat n)), .val (.int (Int32.ofNat f)), .val (.int c0), .val (.int c1), .val (.int c2), .val (.int c3), .val (.ref a355), .val (.ref sx), .val (.int (Int32.ofNat r))] [(.int c2), (.int (Int32.ofNat r)), (.int (Int32.ofNat f)), (.int (2 : Int32))])) rfl (by rw [hml]; rfl) (argsL := [(.int (2 : Int32)), (.int (Int32.ofNat f)), (.int (Int32.ofNat r)), (.int c2)]) (rest := []) (rm_ss l Z a0 hw (2 : Int32) (Int32.ofNat f) (Int32.ofNat r) c2 _ F402 (own_sp (k := 2) (l := [c0, c1, c2, c3]) (by decide) rfl hrn hn4 hfn hsp)) F432 pd__IIIC_Z rfl rfl (W := 0) (by show 2 * 0 + _ ≤ _; exact Nat.le_of_eq rfl) (hb hby at_162) (by decide) (by decide) (by decide) (by decide)
    have F435 := Fr.app F431 Nq433
    have F436 := e434.trans eh433
    refine own_step (T' := T434) (g' := (mkF m 165 #[.val (.int p0), .val (.int p1), .val (.int p2), .val (.int p3), .val (.int p4), .val (.int p5), .val (.int (Int32.ofNat n)), .val (.int (Int32.ofNat f)), .val (.int c0), .val (.int c1), .val (.int c2), .val (.int c3), .val (.ref a355), .val (.ref sx), .val (.int (Int32.ofNat r))] [(.int (1 : Int32))])) (fun _ kk => st434 _ kk) ?_
    refine own_step (T' := T434) (g' := (mkF m 168 #[.val (.int p0), .val (.int p1), .val (.int p2), .val (.int p3), .val (.int p4), .val (.int p5), .val (.int (Int32.ofNat n)), .val (.int (Int32.ofNat f)), .val (.int c0), .val (.int c1), .val (.int c2), .val (.int c3), .val (.ref a355), .val (.ref sx), .val (.int (Int32.ofNat r))] [])) (fun _ kk => XS.ifNo X434.here hx rfl (hb hby at_165) rfl ((if0 _ _).trans (feq (by decide)).1) kk) ?_
    refine own_step (T' := T434) (g' := (mkF m 169 #[.val (.int p0), .val (.int p1), .val (.int p2), .val (.int p3), .val (.int p4), .val (.int p5), .val (.int (Int32.ofNat n)), .val (.int (Int32.ofNat f)), .val (.int c0), .val (.int c1), .val (.int c2), .val (.int c3), .val (.ref a355), .val (.ref sx), .val (.int (Int32.ofNat r))] [(.int (3 : Int32))])) (fun _ kk => XS.iconst X434.here hx rfl (hb hby at_168) kk) ?_
    refine own_step (T' := T434) (g' := (mkF m 171 #[.val (.int p0), .val (.int p1), .val (.int p2), .val (.int p3), .val (.int p4), .val (.int p5), .val (.int (Int32.ofNat n)), .val (.int (Int32.ofNat f)), .val (.int c0), .val (.int c1), .val (.int c2), .val (.int c3), .val (.ref a355), .val (.ref sx), .val (.int (Int32.ofNat r))] [(.int (Int32.ofNat f)), (.int (3 : Int32))])) (fun _ kk => XS.iload X434.here hx rfl (hb hby at_169) rfl kk) ?_
    refine own_step (T' := T434) (g' := (mkF m 173 #[.val (.int p0), .val (.int p1), .val (.int p2), .val (.int p3), .val (.int p4), .val (.int p5), .val (.int (Int32.ofNat n)), .val (.int (Int32.ofNat f)), .val (.int c0), .val (.int c1), .val (.int c2), .val (.int c3), .val (.ref a355), .val (.ref sx), .val (.int (Int32.ofNat r))] [(.int (Int32.ofNat r)), (.int (Int32.ofNat f)), (.int (3 : Int32))])) (fun _ kk => XS.iload X434.here hx rfl (hb hby at_171) rfl kk) ?_
    refine own_step (T' := T434) (g' := (mkF m 175 #[.val (.int p0), .val (.int p1), .val (.int p2), .val (.int p3), .val (.int p4), .val (.int p5), .val (.int (Int32.ofNat n)), .val (.int (Int32.ofNat f)), .val (.int c0), .val (.int c1), .val (.int c2), .val (.int c3), .val (.ref a355), .val (.ref sx), .val (.int (Int32.ofNat r))] [(.int c3), (.int (Int32.ofNat r)), (.int (Int32.ofNat f)), (.int (3 : Int32))])) (fun _ kk => XS.iload X434.here hx rfl (hb hby at_173) rfl kk) ?_
    obtain ⟨T438, L438, _, h438, X438, e438, ⟨rfl, Nq437, eh437⟩, st438⟩ := own_callS X434 hx hZ398 ho398 (w45 hw) (w46 hw) (w47 hw) (w3 hw) (by decide) (g := (mkF m 175 #[.val (.int p0), .val (.int p1), .val (.int p2), .val (.int p3), .val (.int p4), .val (.int p5), .val (.int (Int32.ofNat n)), .val (.int (Int32.ofNat f)), .val (.int c0), .val (.int c1), .val (.int c2), .val (.int c3), .val (.ref a355), .val (.ref sx), .val (.int (Int32.ofNat r))] [(.int c3), (.int (Int32.ofNat r)), (.int (Int32.ofNat f)), (.int (3 : Int32))])) rfl (by rw [hml]; rfl) (argsL := [(.int (3 : Int32)), (.int (Int32.ofNat f)), (.int (Int32.ofNat r)), (.int c3)]) (rest := []) (rm_ss l Z a0 hw (3 : Int32) (Int32.ofNat f) (Int32.ofNat r) c3 _ F402 (own_sp (k := 3) (l := [c0, c1, c2, c3]) (by decide) rfl hrn hn4 hfn hsp)) F436 pd__IIIC_Z rfl rfl (W := 0) (by show 2 * 0 + _ ≤ _; exact Nat.le_of_eq rfl) (hb hby at_175) (by decide) (by decide) (by decide) (by decide)
    have F439 := Fr.app F435 Nq437
    have F440 := e438.trans eh437
    refine own_step (T' := T438) (g' := (mkF m 178 #[.val (.int p0), .val (.int p1), .val (.int p2), .val (.int p3), .val (.int p4), .val (.int p5), .val (.int (Int32.ofNat n)), .val (.int (Int32.ofNat f)), .val (.int c0), .val (.int c1), .val (.int c2), .val (.int c3), .val (.ref a355), .val (.ref sx), .val (.int (Int32.ofNat r))] [(.int (1 : Int32))])) (fun _ kk => st438 _ kk) ?_
    refine own_step (T' := T438) (g' := (mkF m 181 #[.val (.int p0), .val (.int p1), .val (.int p2), .val (.int p3), .val (.int p4), .val (.int p5), .val (.int (Int32.ofNat n)), .val (.int (Int32.ofNat f)), .val (.int c0), .val (.int c1), .val (.int c2), .val (.int c3), .val (.ref a355), .val (.ref sx), .val (.int (Int32.ofNat r))] [])) (fun _ kk => XS.ifNo X438.here hx rfl (hb hby at_178) rfl ((if0 _ _).trans (feq (by decide)).1) kk) ?_
    refine own_step (T' := T438) (g' := (mkF m 182 #[.val (.int p0), .val (.int p1), .val (.int p2), .val (.int p3), .val (.int p4), .val (.int p5), .val (.int (Int32.ofNat n)), .val (.int (Int32.ofNat f)), .val (.int c0), .val (.int c1), .val (.int c2), .val (.int c3), .val (.ref a355), .val (.ref sx), .val (.int (Int32.ofNat r))] [(.int (1 : Int32))])) (fun _ kk => XS.iconst X438.here hx rfl (hb hby at_181) kk) ?_
    refine own_step (T' := T438) (g' := (mkF m 186 #[.val (.int p0), .val (.int p1), .val (.int p2), .val (.int p3), .val (.int p4), .val (.int p5), .val (.int (Int32.ofNat n)), .val (.int (Int32.ofNat f)), .val (.int c0), .val (.int c1), .val (.int c2), .val (.int c3), .val (.ref a355), .val (.ref sx), .val (.int (Int32.ofNat r))] [(.int (1 : Int32))])) (fun _ kk => XS.goto X438.here hx rfl (pc0 := 182) (pc' := 186) rfl (hb hby at_182) (by decide) (by decide) kk) ?_
    exact own_retNW X438 hx hS398 (Nat.le_refl _) hlk (t := .boolean) hret (by simp) (hb hby at_186) F440 ⟨rfl, F439⟩ (by decide) (by decide)
set_option maxRecDepth 65536 in
set_option maxHeartbeats 40000000 in
theorem comes_1 {Post : Tables → Env → Array Value → State → Outcome → State → Prop} (hpost : ∀ tb e args s v u, (limb_1_1.after args s (.returned v) u = true ∧ limb_1_2.after args s (.returned v) u = true ∧ True) → ReturnedEndW s (.returned v) u (Jvm.fieldLocs frame_1_writes args s ++ Jvm.arrayLocs frame_1_arrays args s ++ Jvm.staticLocs frame_1_statics s) 24 1152 → Post tb e args s (.returned v) u) :
    ArmFor flags0 classFile x code maxLocals ret World_1 tables_1 room_1 Calls_1 rest_1 Pre_1 Post := by
  intro l hfl _ _ p e ha hc hk s m args below hf hA hF happ hP
  obtain ⟨hcalls, hrest, hpre⟩ := hP
  obtain ⟨-, -, -, hnamed, -, -, -, hat⟩ := (Spec.applies_iff hf).mp happ
  obtain ⟨hg, hn⟩ := and_e (Cond.before_iff.mp (show (Jvm.Cond.and given_1 narrow_1).before args s = true from hpre))
  obtain ⟨hg1, hg⟩ := and_e hg
  obtain ⟨hg2, hg⟩ := and_e hg
  obtain ⟨hg3, hg⟩ := and_e hg
  obtain ⟨hg4, hg⟩ := and_e hg
  obtain ⟨hg5, hg⟩ := and_e hg
  obtain ⟨hg6, hg⟩ := and_e hg
  have hg7 := hg
  obtain ⟨w0, w1, w2, w3, w4, w5, rfl⟩ : ∃ w0 w1 w2 w3 w4 w5 : Value, args = #[w0, w1, w2, w3, w4, w5] := by
    have hs : args.size = 6 := by simpa [Cond.value, given_1] using hg1
    obtain ⟨L⟩ := args
    match L, hs with
    | [w0, w1, w2, w3, w4, w5], _ => exact ⟨w0, w1, w2, w3, w4, w5, rfl⟩
  have hw := fun d (hd : d ∈ tables_1) => atoms_spec (ws := Jvm.Cond.code x code maxLocals ret :: tables_1) hat d (List.mem_cons_of_mem _ hd)
  have hsets := (atoms_of jdkStatics_1 (show (jdkStatics_1.foldr Jvm.Cond.and restOwn_1).before _ s = true from hrest)).1
  obtain ⟨i0, e0⟩ := is_v hg2
  obtain rfl : w0 = (.int i0) := Option.some.inj e0
  obtain ⟨i1, e1⟩ := is_v hg3
  obtain rfl : w1 = (.int i1) := Option.some.inj e1
  obtain ⟨i2, e2⟩ := is_v hg4
  obtain rfl : w2 = (.int i2) := Option.some.inj e2
  obtain ⟨i3, e3⟩ := is_v hg5
  obtain rfl : w3 = (.int i3) := Option.some.inj e3
  obtain ⟨i4, e4⟩ := is_v hg6
  obtain rfl : w4 = (.int i4) := Option.some.inj e4
  obtain ⟨i5, e5⟩ := is_v hg7
  obtain rfl : w5 = (.int i5) := Option.some.inj e5
  obtain ⟨zc, evc⟩ := is_v (Cond.before_iff.mp (hsets _ (List.mem_of_getElem? (i := 1) rfl)))
  have SC := Sta.start evc (Or.inl (hsets _ (List.mem_of_getElem? (i := 0) rfl)))
  have hzc : ¬ zc = (0 : Int32) := fun q => by
    have h1 := not_v (Cond.before_iff.mp (hsets _ (List.mem_of_getElem? (i := 2) rfl)))
    exact gotF (Cond.eq_ints evc (Term.int_eval 0)) h1 q
  obtain ⟨fm, evf, rfm⟩ := isR_v (Cond.before_iff.mp (hsets _ (List.mem_of_getElem? (i := 8) rfl)))
  have SI := Sta.start evf (Or.inl (hsets _ (List.mem_of_getElem? (i := 7) rfl)))
  have hCH : CHv s consts_1 s.vm s.heap := CHv.start (own_EW hw) (fun q hq => hcalls.1 q hq) (hsets _ (List.mem_of_getElem? (i := 2) rfl)) (own_strAtoms hw _ (by simp [Bundle.stringAtoms])) (own_strAtoms hw _ (by simp [Bundle.stringAtoms, Bundle.sN]))
  obtain ⟨n, o, g1, g2, g3, _, L, rfl, ⟨rfl, N⟩, hq⟩ := rm_law l s _ hw i0 i1 i2 i3 i4 i5 zc fm s.heap (Old.start s) SC hzc SI rfm tables_1 p e ha hc hk s m _ below hf ((Spec.applies_iff_loose hf).mp happ).1 ⟨rfl, State.Warmed39.refl s, rfl, hCH⟩ trivial
  refine ⟨n, _, g1, g2, g3, hpost _ _ _ _ _ _ ⟨Cond.after_iff.mpr rfl, Cond.after_iff.mpr (eq_i res_at (Term.int_eval (1)) rfl), trivial⟩ ⟨hq.1, hq.2.1, hq.2.2.1, (hq.2.2.2.sift fun y hy => Or.inr (N y hy)).mono (by decide) (by decide)⟩⟩
theorem main_1_1 : Claimed_1_1 := comes_1 fun _ _ _ _ _ _ h hF => ⟨h.1, hF⟩
theorem main_1_2 : Claimed_1_2 := comes_1 fun _ _ _ _ _ _ h hF => ⟨h.2.1, hF⟩
end Jvm.Pilot.@@N@@
namespace Jvm.Pilot.@@N@@
open Jvm Jvm.ClassFile Sem Op Lib Jvm.Free Jvm.Stand Jvm.Pilot.@@N@@.Jvm.D
/-! MADE BY PROGRAM (witnessworld.py) out of the Statement's table words and the real class files: 20 classes; the members and pool entries that the words name. The judged class is class 1, her method 4. -/
namespace start1
open Jvm.ClassFile
def u (s : String) : CpInfo := .utf8 (stringToUtf16 s)
/-- a pool by its gaps: so many unusable entries, then the entry; so many at the end -/
def gap : Nat → List CpInfo → List CpInfo
  | 0, r => r
  | n + 1, r => .unusable :: gap n r
def poolList (es : List (Nat × CpInfo)) (last : Nat) : List CpInfo := es.foldr (fun e r => gap e.1 (e.2 :: r)) (gap last [])
def pool (es : List (Nat × CpInfo)) (last : Nat) : Array CpInfo := ⟨poolList es last⟩
def fileOf (pool : Array CpInfo) (this : Nat) (attrs : Array Attribute := #[]) (ms : Array MethodInfo := #[]) (fl : Nat := 33) (sup : Nat := 0) (ifs : Array Nat := #[]) (fds : Array FieldInfo := #[]) : ClassFile where
  minorVersion := 0
  majorVersion := 65
  constantPool := pool
  accessFlags := fl
  thisClass := this
  superClass := sup
  interfaces := ifs
  fields := fds
  methods := ms
  attributes := attrs
def plain (name : String) (sup : Option ClassId) : Class where
  name := name
  kind := .ordinary
  loader := none
  accessFlags := 33
  super := sup
  interfaces := #[]
  cf := none
  fields := #[]
  methods := #[]
  instanceTypes := #[]
  staticTypes := #[]
  resolved := #[]
  callSites := []
  init := .initialized
  statics := none
  mirror := none

def pool0 : Array CpInfo := pool [(5, u "<init>"), (0, u "()V"), (1, .class_ 10), (1, u "java/lang/Object")] 113

def k0c0 : Code := { maxStack := 0, maxLocals := 1, code := object_method_1_code, exceptionTable := #[], attributes := #[] }
def k0m0 : Method := { name := "<init>", desc := "()V", sig := { parameters := [], returnType := none }, accessFlags := 1, code := some k0c0 }
/-- java/lang/Object -/
def k0 : Class := { plain "java/lang/Object" none with
  accessFlags := 33
  interfaces := #[]
  cf := some (fileOf pool0 8 #[] #[{ accessFlags := 1, nameIndex := 5, descriptorIndex := 6, attributes := #[] }] 33 0 #[] #[])
  fields := #[]
  methods := #[k0m0]
  instanceTypes := #[]
  staticTypes := #[]
  resolved := Array.replicate 124 none
  statics := none }

def pool1 : Array CpInfo := pool [(2, .class_ 4), (1, u "java/lang/Object"), (0, u "<init>"), (0, u "()V"), (0, .class_ 8), (0, u "java/lang/String"), (0, .methodref 7 10), (0, .nameAndType 5 11), (0, u "([C)V"), (0, .integer 2147483647), (0, .methodref 14 15), (0, .class_ 16), (0, .nameAndType 17 18), (0, u "com/example/idemkey/idemkey/key/StructuredFieldStringSkipSpacesPinLaw"), (0, u "ch"), (0, u "(I)C"), (0, .methodref 14 20), (0, .nameAndType 21 22), (0, u "make"), (0, u "(ICCCC)Ljava/lang/String;"), (0, .methodref 24 25), (0, .class_ 26), (0, .nameAndType 27 28), (0, u "com/example/idemkey/idemkey/key/StructuredFieldString"), (0, u "skipSpaces"), (0, u "(Ljava/lang/String;I)I"), (0, .methodref 14 30), (0, .nameAndType 31 32), (0, u "spaceIfSkipped"), (0, u "(IIIC)Z"), (3, u "law"), (0, u "(IIIIII)Z")] 4

def k1m0 : Method := { name := "<init>", desc := "()V", sig := { parameters := [], returnType := none }, accessFlags := 2, code := none }
def k1c1 : Code := { maxStack := 2, maxLocals := 1, code := method_2_code, exceptionTable := #[], attributes := #[] }
def k1m1 : Method := { name := "ch", desc := "(I)C", sig := { parameters := [.int], returnType := some .char }, accessFlags := 10, code := some k1c1 }
def k1c2 : Code := { maxStack := 6, maxLocals := 5, code := method_3_code, exceptionTable := #[], attributes := #[] }
def k1m2 : Method := { name := "make", desc := "(ICCCC)Ljava/lang/String;", sig := { parameters := [.int, .char, .char, .char, .char], returnType := some (.object "java/lang/String") }, accessFlags := 10, code := some k1c2 }
def k1c3 : Code := { maxStack := 2, maxLocals := 4, code := method_4_code, exceptionTable := #[], attributes := #[] }
def k1m3 : Method := { name := "spaceIfSkipped", desc := "(IIIC)Z", sig := { parameters := [.int, .int, .int, .char], returnType := some .boolean }, accessFlags := 10, code := some k1c3 }
def k1c4 : Code := { maxStack := 5, maxLocals := 15, code := code, exceptionTable := #[], attributes := #[] }
def k1m4 : Method := { name := "law", desc := "(IIIIII)Z", sig := { parameters := [.int, .int, .int, .int, .int, .int], returnType := some .boolean }, accessFlags := 9, code := some k1c4 }
/-- com/example/idemkey/idemkey/key/StructuredFieldStringSkipSpacesPinLaw -/
def k1 : Class := { plain "com/example/idemkey/idemkey/key/StructuredFieldStringSkipSpacesPinLaw" (some 0) with
  accessFlags := 49
  interfaces := #[]
  cf := some (fileOf pool1 14 #[] #[{ accessFlags := 2, nameIndex := 5, descriptorIndex := 6, attributes := #[] }, { accessFlags := 10, nameIndex := 17, descriptorIndex := 18, attributes := #[] }, { accessFlags := 10, nameIndex := 21, descriptorIndex := 22, attributes := #[] }, { accessFlags := 10, nameIndex := 31, descriptorIndex := 32, attributes := #[] }, { accessFlags := 9, nameIndex := 36, descriptorIndex := 37, attributes := #[] }] 49 2 #[] #[])
  fields := #[]
  methods := #[k1m0, k1m1, k1m2, k1m3, k1m4]
  instanceTypes := #[]
  staticTypes := #[]
  resolved := Array.replicate 42 none
  statics := none }

def pool2 : Array CpInfo := pool [(1, .class_ 2), (0, u "java/io/Serializable"), (0, .class_ 4), (0, u "java/lang/Object")] 2

/-- java/io/Serializable -/
def k2 : Class := { plain "java/io/Serializable" (some 0) with
  accessFlags := 1537
  interfaces := #[]
  cf := some (fileOf pool2 1 #[] #[] 1537 3 #[] #[])
  fields := #[]
  methods := #[]
  instanceTypes := #[]
  staticTypes := #[]
  resolved := Array.replicate 7 none
  statics := none }

def pool3 : Array CpInfo := pool [(1, .class_ 2), (0, u "java/lang/Comparable"), (0, .class_ 4), (0, u "java/lang/Object")] 7

/-- java/lang/Comparable -/
def k3 : Class := { plain "java/lang/Comparable" (some 0) with
  accessFlags := 1537
  interfaces := #[]
  cf := some (fileOf pool3 1 #[] #[] 1537 3 #[] #[])
  fields := #[]
  methods := #[]
  instanceTypes := #[]
  staticTypes := #[]
  resolved := Array.replicate 12 none
  statics := none }

def pool4 : Array CpInfo := pool [(2, .class_ 4), (1, u "java/lang/CharSequence"), (42, .class_ 48), (0, u "java/lang/CharSequence$1CodePointIterator"), (10, .class_ 60), (0, u "java/lang/CharSequence$1CharIterator"), (5, .class_ 67), (0, u "java/lang/Object")] 63

/-- java/lang/CharSequence -/
def k4 : Class := { plain "java/lang/CharSequence" (some 0) with
  accessFlags := 1537
  interfaces := #[]
  cf := some (fileOf pool4 2 #[.nestMembers #[47, 59]] #[] 1537 66 #[] #[])
  fields := #[]
  methods := #[]
  instanceTypes := #[]
  staticTypes := #[]
  resolved := Array.replicate 131 none
  statics := none }

def pool5 : Array CpInfo := pool [(1, .class_ 2), (0, u "java/lang/constant/Constable"), (0, .class_ 4), (0, u "java/lang/Object")] 6

/-- java/lang/constant/Constable -/
def k5 : Class := { plain "java/lang/constant/Constable" (some 0) with
  accessFlags := 1537
  interfaces := #[]
  cf := some (fileOf pool5 1 #[] #[] 1537 3 #[] #[])
  fields := #[]
  methods := #[]
  instanceTypes := #[]
  staticTypes := #[]
  resolved := Array.replicate 11 none
  statics := none }

def pool6 : Array CpInfo := pool [(1, .class_ 2), (0, u "java/lang/constant/ConstantDesc"), (0, .class_ 4), (0, u "java/lang/Object")] 32

/-- java/lang/constant/ConstantDesc -/
def k6 : Class := { plain "java/lang/constant/ConstantDesc" (some 0) with
  accessFlags := 1537
  interfaces := #[]
  cf := some (fileOf pool6 1 #[] #[] 1537 3 #[] #[])
  fields := #[]
  methods := #[]
  instanceTypes := #[]
  staticTypes := #[]
  resolved := Array.replicate 37 none
  statics := none }

def pool7 : Array CpInfo := pool [(1, .methodref 2 3), (0, .class_ 4), (0, .nameAndType 5 6), (0, u "java/lang/Object"), (0, u "<init>"), (0, u "()V"), (0, .string 8), (0, u ""), (0, .fieldref 10 11), (0, .class_ 12), (0, .nameAndType 13 14), (0, u "java/lang/String"), (0, u "value"), (0, u "[B"), (0, .fieldref 10 16), (0, .nameAndType 17 18), (0, u "coder"), (0, u "B"), (2, u "hash"), (0, u "I"), (2, u "hashIsZero"), (0, u "Z"), (0, .methodref 10 28), (0, .nameAndType 5 29), (0, u "([CIILjava/lang/Void;)V"), (8, .fieldref 10 39), (0, .nameAndType 40 26), (0, u "COMPACT_STRINGS"), (1, .class_ 44), (1, u "java/lang/StringUTF16"), (0, u "compress"), (1, .methodref 42 48), (0, .nameAndType 49 50), (0, u "coderFromArrayLen"), (0, u "([BI)B"), (56, .class_ 109), (1, u "java/lang/StringLatin1"), (32, u "()Z"), (34, .methodref 42 178), (0, .nameAndType 45 179), (0, u "([CII)[B"), (154, u "()I"), (0, .methodref 10 336), (0, .nameAndType 17 337), (0, u "()B"), (25, u "([BI)C"), (27, u "(II)V"), (35, u "(I)C"), (64, .methodref 10 493), (0, .nameAndType 494 142), (0, u "isLatin1"), (0, .methodref 107 496), (0, .nameAndType 497 363), (0, u "charAt"), (3, u "checkIndex"), (5, u "length"), (67, .class_ 576), (0, u "java/lang/CharSequence"), (22, u "CASE_INSENSITIVE_ORDER"), (0, u "Ljava/util/Comparator;"), (409, u "([C)V"), (42, .fieldref 1054 1055), (0, .class_ 1056), (0, .nameAndType 1057 1058), (0, u "jdk/internal/util/Preconditions"), (0, u "SIOOBE_FORMATTER"), (0, u "Ljava/util/function/BiFunction;"), (0, .methodref 1054 1060), (0, .nameAndType 501 1061), (0, u "(IILjava/util/function/BiFunction;)I"), (39, u "serialPersistentFields"), (0, u "[Ljava/io/ObjectStreamField;"), (0, .class_ 1104), (0, u "java/lang/String$CaseInsensitiveComparator"), (1, .class_ 1107), (0, u "java/io/Serializable"), (0, .class_ 1109), (0, u "java/lang/Comparable"), (0, .class_ 1111), (0, u "java/lang/constant/Constable"), (0, .class_ 1113), (0, u "java/lang/constant/ConstantDesc"), (2, u "serialVersionUID"), (0, u "J"), (3, u "REPL"), (0, u "C"), (2, u "LATIN1"), (1, u "UTF16")] 323

def k7m0 : Method := { name := "<init>", desc := "()V", sig := { parameters := [], returnType := none }, accessFlags := 1, code := none }
def k7c1 : Code := { maxStack := 5, maxLocals := 2, code := jdk_42_method_3_code, exceptionTable := #[], attributes := #[] }
def k7m1 : Method := { name := "<init>", desc := "([C)V", sig := { parameters := [(.array .char)], returnType := none }, accessFlags := 1, code := some k7c1 }
def k7c2 : Code := { maxStack := 2, maxLocals := 1, code := jdk_42_method_54_code, exceptionTable := #[], attributes := #[] }
def k7m2 : Method := { name := "length", desc := "()I", sig := { parameters := [], returnType := some .int }, accessFlags := 1, code := some k7c2 }
def k7c3 : Code := { maxStack := 2, maxLocals := 2, code := jdk_42_method_56_code, exceptionTable := #[], attributes := #[] }
def k7m3 : Method := { name := "charAt", desc := "(I)C", sig := { parameters := [.int], returnType := some .char }, accessFlags := 1, code := some k7c3 }
def k7c4 : Code := { maxStack := 4, maxLocals := 6, code := jdk_42_method_149_code, exceptionTable := #[], attributes := #[] }
def k7m4 : Method := { name := "<init>", desc := "([CIILjava/lang/Void;)V", sig := { parameters := [(.array .char), .int, .int, (.object "java/lang/Void")], returnType := none }, accessFlags := 2, code := some k7c4 }
def k7c5 : Code := { maxStack := 1, maxLocals := 1, code := jdk_42_method_152_code, exceptionTable := #[], attributes := #[] }
def k7m5 : Method := { name := "coder", desc := "()B", sig := { parameters := [], returnType := some .byte }, accessFlags := 0, code := some k7c5 }
def k7c6 : Code := { maxStack := 1, maxLocals := 1, code := jdk_42_method_154_code, exceptionTable := #[], attributes := #[] }
def k7m6 : Method := { name := "isLatin1", desc := "()Z", sig := { parameters := [], returnType := some .boolean }, accessFlags := 0, code := some k7c6 }
def k7c7 : Code := { maxStack := 3, maxLocals := 2, code := jdk_42_method_155_code, exceptionTable := #[], attributes := #[] }
def k7m7 : Method := { name := "checkIndex", desc := "(II)V", sig := { parameters := [.int, .int], returnType := none }, accessFlags := 8, code := some k7c7 }
/-- java/lang/String -/
def k7 : Class := { plain "java/lang/String" (some 0) with
  accessFlags := 49
  interfaces := #[2, 3, 4, 5, 6]
  cf := some (fileOf pool7 10 #[.nestMembers #[1103]] #[{ accessFlags := 1, nameIndex := 5, descriptorIndex := 6, attributes := #[] }, { accessFlags := 1, nameIndex := 5, descriptorIndex := 1010, attributes := #[] }, { accessFlags := 1, nameIndex := 507, descriptorIndex := 334, attributes := #[] }, { accessFlags := 1, nameIndex := 497, descriptorIndex := 427, attributes := #[] }, { accessFlags := 2, nameIndex := 5, descriptorIndex := 29, attributes := #[] }, { accessFlags := 0, nameIndex := 17, descriptorIndex := 337, attributes := #[] }, { accessFlags := 0, nameIndex := 494, descriptorIndex := 142, attributes := #[] }, { accessFlags := 8, nameIndex := 501, descriptorIndex := 391, attributes := #[] }] 49 2 #[1106, 1108, 575, 1110, 1112] #[{ accessFlags := 18, nameIndex := 13, descriptorIndex := 14, attributes := #[] }, { accessFlags := 18, nameIndex := 17, descriptorIndex := 18, attributes := #[] }, { accessFlags := 2, nameIndex := 21, descriptorIndex := 22, attributes := #[] }, { accessFlags := 2, nameIndex := 25, descriptorIndex := 26, attributes := #[] }, { accessFlags := 26, nameIndex := 1116, descriptorIndex := 1117, attributes := #[] }, { accessFlags := 24, nameIndex := 40, descriptorIndex := 26, attributes := #[] }, { accessFlags := 26, nameIndex := 1101, descriptorIndex := 1102, attributes := #[] }, { accessFlags := 26, nameIndex := 1121, descriptorIndex := 1122, attributes := #[] }, { accessFlags := 25, nameIndex := 599, descriptorIndex := 600, attributes := #[] }, { accessFlags := 24, nameIndex := 1125, descriptorIndex := 18, attributes := #[] }, { accessFlags := 24, nameIndex := 1127, descriptorIndex := 18, attributes := #[] }])
  fields := #[{ name := "value", type := (.array .byte), accessFlags := 18, slot := 0, constantValue := 0 }, { name := "coder", type := .byte, accessFlags := 18, slot := 1, constantValue := 0 }, { name := "hash", type := .int, accessFlags := 2, slot := 2, constantValue := 0 }, { name := "hashIsZero", type := .boolean, accessFlags := 2, slot := 3, constantValue := 0 }, { name := "serialVersionUID", type := .long, accessFlags := 26, slot := 0, constantValue := 0 }, { name := "COMPACT_STRINGS", type := .boolean, accessFlags := 24, slot := 1, constantValue := 0 }, { name := "serialPersistentFields", type := (.array (.object "java/io/ObjectStreamField")), accessFlags := 26, slot := 2, constantValue := 0 }, { name := "REPL", type := .char, accessFlags := 26, slot := 3, constantValue := 0 }, { name := "CASE_INSENSITIVE_ORDER", type := (.object "java/util/Comparator"), accessFlags := 25, slot := 4, constantValue := 0 }, { name := "LATIN1", type := .byte, accessFlags := 24, slot := 5, constantValue := 0 }, { name := "UTF16", type := .byte, accessFlags := 24, slot := 6, constantValue := 0 }]
  methods := #[k7m0, k7m1, k7m2, k7m3, k7m4, k7m5, k7m6, k7m7]
  instanceTypes := #[(.array .byte), .byte, .int, .boolean]
  staticTypes := #[.long, .boolean, (.array (.object "java/io/ObjectStreamField")), .char, (.object "java/util/Comparator"), .byte, .byte]
  resolved := Array.replicate 1451 none
  statics := some 0 }

def pool8 : Array CpInfo := pool [(2, .class_ 4), (1, u "java/lang/Object"), (0, u "<init>"), (0, u "()V"), (1, .class_ 10), (1, u "com/example/idemkey/idemkey/key/StructuredFieldString"), (0, u "skipSpaces"), (0, u "(Ljava/lang/String;I)I"), (0, .methodref 14 15), (0, .class_ 16), (0, .nameAndType 17 18), (0, u "java/lang/String"), (0, u "length"), (0, u "()I"), (0, .methodref 14 20), (0, .nameAndType 21 22), (0, u "charAt"), (0, u "(I)C")] 38

def k8m0 : Method := { name := "<init>", desc := "()V", sig := { parameters := [], returnType := none }, accessFlags := 2, code := none }
def k8c1 : Code := { maxStack := 2, maxLocals := 3, code := prog_7_method_3_code, exceptionTable := #[], attributes := #[] }
def k8m1 : Method := { name := "skipSpaces", desc := "(Ljava/lang/String;I)I", sig := { parameters := [(.object "java/lang/String"), .int], returnType := some .int }, accessFlags := 8, code := some k8c1 }
/-- com/example/idemkey/idemkey/key/StructuredFieldString -/
def k8 : Class := { plain "com/example/idemkey/idemkey/key/StructuredFieldString" (some 0) with
  accessFlags := 32
  interfaces := #[]
  cf := some (fileOf pool8 8 #[] #[{ accessFlags := 2, nameIndex := 5, descriptorIndex := 6, attributes := #[] }, { accessFlags := 8, nameIndex := 11, descriptorIndex := 12, attributes := #[] }] 32 2 #[] #[])
  fields := #[]
  methods := #[k8m0, k8m1]
  instanceTypes := #[]
  staticTypes := #[]
  resolved := Array.replicate 61 none
  statics := none }

def pool9 : Array CpInfo := pool [(6, .class_ 8), (1, u "java/lang/Object"), (0, u "<init>"), (0, u "()V"), (1, .class_ 14), (1, u "java/lang/StringUTF16"), (31, u "$assertionsDisabled"), (0, u "Z"), (13, u "HI_BYTE_SHIFT"), (0, u "I"), (2, u "LO_BYTE_SHIFT"), (49, .methodref 12 116), (0, .nameAndType 117 118), (0, u "compress"), (0, u "([CI[BII)I"), (3, u "([CII)[B"), (138, u "coderFromArrayLen"), (0, u "([BI)B"), (106, .class_ 371), (1, u "java/lang/StringUTF16$LinesSpliterator"), (58, u "MAX_LENGTH"), (196, .class_ 628), (0, u "java/lang/StringUTF16$CodePointsSpliterator"), (0, .class_ 630), (0, u "java/lang/StringUTF16$CharsSpliterator")] 4

def k9m0 : Method := { name := "<init>", desc := "()V", sig := { parameters := [], returnType := none }, accessFlags := 0, code := none }
def k9c1 : Code := { maxStack := 2, maxLocals := 2, code := jdk_52_method_15_code, exceptionTable := #[], attributes := #[] }
def k9m1 : Method := { name := "coderFromArrayLen", desc := "([BI)B", sig := { parameters := [(.array .byte), .int], returnType := some .byte }, accessFlags := 8, code := some k9c1 }
def k9c2 : Code := { maxStack := 5, maxLocals := 6, code := jdk_52_method_16_code, exceptionTable := #[], attributes := #[] }
def k9m2 : Method := { name := "compress", desc := "([CII)[B", sig := { parameters := [(.array .char), .int, .int], returnType := some (.array .byte) }, accessFlags := 9, code := some k9c2 }
def k9c3 : Code := { maxStack := 3, maxLocals := 7, code := jdk_52_method_21_code, exceptionTable := #[], attributes := #[] }
def k9m3 : Method := { name := "compress", desc := "([CI[BII)I", sig := { parameters := [(.array .char), .int, (.array .byte), .int, .int], returnType := some .int }, accessFlags := 9, code := some k9c3 }
/-- java/lang/StringUTF16 -/
def k9 : Class := { plain "java/lang/StringUTF16" (some 0) with
  accessFlags := 48
  interfaces := #[]
  cf := some (fileOf pool9 12 #[.nestMembers #[627, 629, 369]] #[{ accessFlags := 0, nameIndex := 9, descriptorIndex := 10, attributes := #[] }, { accessFlags := 8, nameIndex := 261, descriptorIndex := 262, attributes := #[] }, { accessFlags := 9, nameIndex := 117, descriptorIndex := 122, attributes := #[] }, { accessFlags := 9, nameIndex := 117, descriptorIndex := 118, attributes := #[] }] 48 6 #[] #[{ accessFlags := 26, nameIndex := 61, descriptorIndex := 62, attributes := #[] }, { accessFlags := 26, nameIndex := 65, descriptorIndex := 62, attributes := #[] }, { accessFlags := 24, nameIndex := 430, descriptorIndex := 62, attributes := #[] }, { accessFlags := 4120, nameIndex := 46, descriptorIndex := 47, attributes := #[] }])
  fields := #[{ name := "HI_BYTE_SHIFT", type := .int, accessFlags := 26, slot := 0, constantValue := 0 }, { name := "LO_BYTE_SHIFT", type := .int, accessFlags := 26, slot := 1, constantValue := 0 }, { name := "MAX_LENGTH", type := .int, accessFlags := 24, slot := 2, constantValue := 0 }, { name := "$assertionsDisabled", type := .boolean, accessFlags := 4120, slot := 3, constantValue := 0 }]
  methods := #[k9m0, k9m1, k9m2, k9m3]
  instanceTypes := #[]
  staticTypes := #[.int, .int, .int, .boolean]
  resolved := Array.replicate 635 none
  statics := none }

def pool10 : Array CpInfo := pool [(1, .class_ 2), (0, u "java/lang/String"), (1, .class_ 6), (1, u "java/lang/Object"), (0, u "<init>"), (0, u "()V"), (0, .methodref 1 10), (0, .nameAndType 11 12), (0, u "checkIndex"), (0, u "(II)V"), (1, .class_ 16), (1, u "java/lang/StringLatin1"), (36, u "([BI)C"), (67, u "$assertionsDisabled"), (0, u "Z"), (98, .class_ 223), (1, u "java/lang/StringLatin1$LinesSpliterator"), (28, u "charAt"), (137, .class_ 391), (0, u "java/lang/StringLatin1$CharsSpliterator")] 3

def k10m0 : Method := { name := "<init>", desc := "()V", sig := { parameters := [], returnType := none }, accessFlags := 0, code := none }
def k10c1 : Code := { maxStack := 2, maxLocals := 2, code := jdk_43_method_2_code, exceptionTable := #[], attributes := #[] }
def k10m1 : Method := { name := "charAt", desc := "([BI)C", sig := { parameters := [(.array .byte), .int], returnType := some .char }, accessFlags := 9, code := some k10c1 }
/-- java/lang/StringLatin1 -/
def k10 : Class := { plain "java/lang/StringLatin1" (some 0) with
  accessFlags := 48
  interfaces := #[]
  cf := some (fileOf pool10 14 #[.nestMembers #[390, 221]] #[{ accessFlags := 0, nameIndex := 7, descriptorIndex := 8, attributes := #[] }, { accessFlags := 9, nameIndex := 252, descriptorIndex := 53, attributes := #[] }] 48 4 #[] #[{ accessFlags := 4120, nameIndex := 121, descriptorIndex := 122, attributes := #[] }])
  fields := #[{ name := "$assertionsDisabled", type := .boolean, accessFlags := 4120, slot := 0, constantValue := 0 }]
  methods := #[k10m0, k10m1]
  instanceTypes := #[]
  staticTypes := #[.boolean]
  resolved := Array.replicate 395 none
  statics := none }

def pool11 : Array CpInfo := pool [(2, .class_ 4), (1, u "java/lang/Object"), (0, u "<init>"), (0, u "()V"), (17, .class_ 26), (1, u "jdk/internal/util/Preconditions"), (6, u "checkIndex"), (21, .class_ 56), (0, u "jdk/internal/util/Preconditions$4"), (57, .class_ 115), (0, u "jdk/internal/util/Preconditions$1"), (7, u "SIOOBE_FORMATTER"), (0, u "Ljava/util/function/BiFunction;"), (0, .class_ 126), (0, u "jdk/internal/util/Preconditions$2"), (3, u "AIOOBE_FORMATTER"), (0, .class_ 132), (0, u "jdk/internal/util/Preconditions$3"), (3, u "IOOBE_FORMATTER"), (41, u "(IILjava/util/function/BiFunction;)I")] 15

def k11m0 : Method := { name := "<init>", desc := "()V", sig := { parameters := [], returnType := none }, accessFlags := 1, code := none }
def k11c1 : Code := { maxStack := 3, maxLocals := 3, code := jdk_41_method_11_code, exceptionTable := #[], attributes := #[] }
def k11m1 : Method := { name := "checkIndex", desc := "(IILjava/util/function/BiFunction;)I", sig := { parameters := [.int, .int, (.object "java/util/function/BiFunction")], returnType := some .int }, accessFlags := 9, code := some k11c1 }
/-- jdk/internal/util/Preconditions -/
def k11 : Class := { plain "jdk/internal/util/Preconditions" (some 0) with
  accessFlags := 33
  interfaces := #[]
  cf := some (fileOf pool11 24 #[.nestMembers #[55, 131, 125, 114]] #[{ accessFlags := 1, nameIndex := 5, descriptorIndex := 6, attributes := #[] }, { accessFlags := 9, nameIndex := 33, descriptorIndex := 178, attributes := #[] }] 33 2 #[] #[{ accessFlags := 25, nameIndex := 123, descriptorIndex := 124, attributes := #[] }, { accessFlags := 25, nameIndex := 130, descriptorIndex := 124, attributes := #[] }, { accessFlags := 25, nameIndex := 136, descriptorIndex := 124, attributes := #[] }])
  fields := #[{ name := "SIOOBE_FORMATTER", type := (.object "java/util/function/BiFunction"), accessFlags := 25, slot := 0, constantValue := 0 }, { name := "AIOOBE_FORMATTER", type := (.object "java/util/function/BiFunction"), accessFlags := 25, slot := 1, constantValue := 0 }, { name := "IOOBE_FORMATTER", type := (.object "java/util/function/BiFunction"), accessFlags := 25, slot := 2, constantValue := 0 }]
  methods := #[k11m0, k11m1]
  instanceTypes := #[]
  staticTypes := #[(.object "java/util/function/BiFunction"), (.object "java/util/function/BiFunction"), (.object "java/util/function/BiFunction")]
  resolved := Array.replicate 194 none
  statics := some 1 }

def pool12 : Array CpInfo := pool [(9, u "<init>"), (6, .class_ 18), (1, u "java/lang/Object"), (0, u "()V"), (1, .class_ 23), (1, u "jdk/internal/util/ArraysSupport"), (0, u "LOG2_ARRAY_LONG_INDEX_SCALE"), (0, u "I"), (2, u "U"), (0, u "Ljdk/internal/misc/Unsafe;"), (8, u "BIG_ENDIAN"), (0, u "Z"), (8, u "LOG2_BYTE_BIT_SIZE"), (4, u "LOG2_ARRAY_INT_INDEX_SCALE"), (54, u "JLA"), (0, u "Ljdk/internal/access/JavaLangAccess;"), (11, u "LOG2_ARRAY_BOOLEAN_INDEX_SCALE"), (9, u "LOG2_ARRAY_BYTE_INDEX_SCALE"), (5, u "LOG2_ARRAY_CHAR_INDEX_SCALE"), (5, u "LOG2_ARRAY_SHORT_INDEX_SCALE"), (18, u "LOG2_ARRAY_FLOAT_INDEX_SCALE"), (24, u "LOG2_ARRAY_DOUBLE_INDEX_SCALE"), (89, u "T_BOOLEAN"), (2, u "T_CHAR"), (1, u "T_FLOAT"), (1, u "T_DOUBLE"), (1, u "T_BYTE"), (1, u "T_SHORT"), (1, u "T_INT"), (1, u "T_LONG"), (1, u "SOFT_MAX_ARRAY_LENGTH")] 83

def k12m0 : Method := { name := "<init>", desc := "()V", sig := { parameters := [], returnType := none }, accessFlags := 2, code := none }
/-- jdk/internal/util/ArraysSupport -/
def k12 : Class := { plain "jdk/internal/util/ArraysSupport" (some 0) with
  accessFlags := 33
  interfaces := #[]
  cf := some (fileOf pool12 21 #[] #[{ accessFlags := 2, nameIndex := 9, descriptorIndex := 19, attributes := #[] }] 33 16 #[] #[{ accessFlags := 24, nameIndex := 28, descriptorIndex := 29, attributes := #[] }, { accessFlags := 26, nameIndex := 38, descriptorIndex := 39, attributes := #[] }, { accessFlags := 25, nameIndex := 121, descriptorIndex := 25, attributes := #[] }, { accessFlags := 25, nameIndex := 131, descriptorIndex := 25, attributes := #[] }, { accessFlags := 25, nameIndex := 137, descriptorIndex := 25, attributes := #[] }, { accessFlags := 25, nameIndex := 143, descriptorIndex := 25, attributes := #[] }, { accessFlags := 25, nameIndex := 53, descriptorIndex := 25, attributes := #[] }, { accessFlags := 25, nameIndex := 24, descriptorIndex := 25, attributes := #[] }, { accessFlags := 25, nameIndex := 162, descriptorIndex := 25, attributes := #[] }, { accessFlags := 25, nameIndex := 187, descriptorIndex := 25, attributes := #[] }, { accessFlags := 26, nameIndex := 48, descriptorIndex := 25, attributes := #[] }, { accessFlags := 25, nameIndex := 277, descriptorIndex := 25, attributes := #[] }, { accessFlags := 25, nameIndex := 280, descriptorIndex := 25, attributes := #[] }, { accessFlags := 25, nameIndex := 282, descriptorIndex := 25, attributes := #[] }, { accessFlags := 25, nameIndex := 284, descriptorIndex := 25, attributes := #[] }, { accessFlags := 25, nameIndex := 286, descriptorIndex := 25, attributes := #[] }, { accessFlags := 25, nameIndex := 288, descriptorIndex := 25, attributes := #[] }, { accessFlags := 25, nameIndex := 290, descriptorIndex := 25, attributes := #[] }, { accessFlags := 25, nameIndex := 292, descriptorIndex := 25, attributes := #[] }, { accessFlags := 26, nameIndex := 108, descriptorIndex := 109, attributes := #[] }, { accessFlags := 25, nameIndex := 294, descriptorIndex := 25, attributes := #[] }])
  fields := #[{ name := "U", type := (.object "jdk/internal/misc/Unsafe"), accessFlags := 24, slot := 0, constantValue := 0 }, { name := "BIG_ENDIAN", type := .boolean, accessFlags := 26, slot := 1, constantValue := 0 }, { name := "LOG2_ARRAY_BOOLEAN_INDEX_SCALE", type := .int, accessFlags := 25, slot := 2, constantValue := 0 }, { name := "LOG2_ARRAY_BYTE_INDEX_SCALE", type := .int, accessFlags := 25, slot := 3, constantValue := 0 }, { name := "LOG2_ARRAY_CHAR_INDEX_SCALE", type := .int, accessFlags := 25, slot := 4, constantValue := 0 }, { name := "LOG2_ARRAY_SHORT_INDEX_SCALE", type := .int, accessFlags := 25, slot := 5, constantValue := 0 }, { name := "LOG2_ARRAY_INT_INDEX_SCALE", type := .int, accessFlags := 25, slot := 6, constantValue := 0 }, { name := "LOG2_ARRAY_LONG_INDEX_SCALE", type := .int, accessFlags := 25, slot := 7, constantValue := 0 }, { name := "LOG2_ARRAY_FLOAT_INDEX_SCALE", type := .int, accessFlags := 25, slot := 8, constantValue := 0 }, { name := "LOG2_ARRAY_DOUBLE_INDEX_SCALE", type := .int, accessFlags := 25, slot := 9, constantValue := 0 }, { name := "LOG2_BYTE_BIT_SIZE", type := .int, accessFlags := 26, slot := 10, constantValue := 0 }, { name := "T_BOOLEAN", type := .int, accessFlags := 25, slot := 11, constantValue := 0 }, { name := "T_CHAR", type := .int, accessFlags := 25, slot := 12, constantValue := 0 }, { name := "T_FLOAT", type := .int, accessFlags := 25, slot := 13, constantValue := 0 }, { name := "T_DOUBLE", type := .int, accessFlags := 25, slot := 14, constantValue := 0 }, { name := "T_BYTE", type := .int, accessFlags := 25, slot := 15, constantValue := 0 }, { name := "T_SHORT", type := .int, accessFlags := 25, slot := 16, constantValue := 0 }, { name := "T_INT", type := .int, accessFlags := 25, slot := 17, constantValue := 0 }, { name := "T_LONG", type := .int, accessFlags := 25, slot := 18, constantValue := 0 }, { name := "JLA", type := (.object "jdk/internal/access/JavaLangAccess"), accessFlags := 26, slot := 19, constantValue := 0 }, { name := "SOFT_MAX_ARRAY_LENGTH", type := .int, accessFlags := 25, slot := 20, constantValue := 0 }]
  methods := #[k12m0]
  instanceTypes := #[]
  staticTypes := #[(.object "jdk/internal/misc/Unsafe"), .boolean, .int, .int, .int, .int, .int, .int, .int, .int, .int, .int, .int, .int, .int, .int, .int, .int, .int, (.object "jdk/internal/access/JavaLangAccess"), .int]
  resolved := Array.replicate 378 none
  statics := none }

def pool13 : Array CpInfo := pool [(1, u "java/lang/Cloneable"), (0, .class_ 1), (0, u "java/lang/Object"), (0, .class_ 3)] 3

/-- java/lang/Cloneable -/
def k13 : Class := { plain "java/lang/Cloneable" (some 0) with
  accessFlags := 1537
  interfaces := #[]
  cf := some (fileOf pool13 2 #[] #[] 1537 4 #[] #[])
  fields := #[]
  methods := #[]
  instanceTypes := #[]
  staticTypes := #[]
  resolved := Array.replicate 8 none
  statics := none }

/-- the primitive byte -/
def k14 : Class := { plain "byte" none with kind := .primitive 'B', accessFlags := 0x411 }
/-- [B -/
def k15 : Class := { plain "[B" (some 0) with kind := .array 14 .byte, interfaces := #[13, 2], accessFlags := 1041 }

/-- the primitive char -/
def k16 : Class := { plain "char" none with kind := .primitive 'C', accessFlags := 0x411 }
/-- [C -/
def k17 : Class := { plain "[C" (some 0) with kind := .array 16 .char, interfaces := #[13, 2], accessFlags := 1041 }

/-- the primitive int -/
def k18 : Class := { plain "int" none with kind := .primitive 'I', accessFlags := 0x411 }
/-- [I -/
def k19 : Class := { plain "[I" (some 0) with kind := .array 18 .int, interfaces := #[13, 2], accessFlags := 1041 }

def heap : Heap := #[{ cls := 7, slots := #[.long 0, .int 1, .null, .int 0, .null, .int 0, .int 0], vm := .statics 7 },
  { cls := 11, slots := #[.null, .null, .null], vm := .statics 11 }]
def classes : Array Class := #[k0, k1, k2, k3, k4, k5, k6, k7, k8, k9, k10, k11, k12, k13, k14, k15, k16, k17, k18, k19]
def interned : List (Array UInt16 × Addr) := []
def slotsUsed : Nat := 10
def theMethod : MethodId := ⟨1, 4⟩
def args0 : Array Value := #[.int 6, .int 1, .int 256, .int 65, .int 66, .int 67]
def aboutOver (below : List Frame) : State where
  vm := { classes := classes, interned := interned.toArray }
  heap := heap
  slotsUsed := slotsUsed
  threads := #[{ frames := .invoking theMethod args0 :: below }]
def below0 : List Frame := [.native { method := ⟨0, 0⟩, args := #[] }]
def about1 : State := aboutOver below0
def p0 : Program := .bare "" "" ""
def e0 : Env := launch0.env 0 0 0
theorem w_frames : about1.frames = Frame.invoking theMethod args0 :: below0 := rfl
set_option maxRecDepth 65536 in
theorem w_args : argsFit about1.vm theMethod args0 = true := by decide +kernel
set_option maxRecDepth 65536 in
theorem w_heap : heapFits about1 = true := by decide +kernel
set_option maxRecDepth 65536 in
theorem w_runnable : about1.curStatus? = some .runnable := by decide +kernel
set_option maxRecDepth 65536 in
theorem w_alone : about1.alone = true := by decide +kernel
set_option maxRecDepth 65536 in
theorem w_named : about1.methodNamed? x = some theMethod := by decide +kernel
set_option maxRecDepth 65536 in
theorem w_hears : about1.hears theMethod below0 = true := by decide +kernel
set_option maxRecDepth 65536 in
theorem w_ripe : about1.ripe theMethod args0 below0 = true := by decide +kernel
theorem w_running : about1.status = .running := rfl
set_option maxRecDepth 65536 in
theorem w_room : about1.hasRoom e0.platform room_1 = true :=
  launch0.hasRoom_least _ room_1 (by decide +kernel) (by decide +kernel) (by decide +kernel) (by decide +kernel) (by decide +kernel) (by decide +kernel)
theorem allAtoms_all (ts : List Jvm.Cond) (a : Array Jvm.Value) (st : Jvm.State) : (allAtoms ts).before a st = ts.all (fun c => c.before a st) := by
  induction ts with
  | nil => rfl
  | cons c t ih =>
    show (Jvm.Cond.and c (allAtoms t)).before a st = _
    rw [Jvm.Cond.before_and, ih, List.all_cons]
def words1 : List Jvm.Cond := Jvm.Cond.code x code maxLocals ret :: tables_1
/-- a 'code' word, met by the world's own term for the bytes: nothing is compared byte by byte -/
theorem code_word {y : MethodName} {bytes : ByteArray} {mx : Nat} {rt : Option FieldType} {a : Array Value} {s : State} {m : MethodId} {meth : Method} {c : Code} (h1 : s.methodNamed? y = some m) (h2 : s.vm.method? m = some meth) (h3 : meth.code = some c) (h4 : c.code = bytes)
    (h5 : (c.maxLocals == mx && c.exceptionTable.isEmpty && decide (c.maxStack ≤ mostOperands) && decide (meth.sig.returnType = rt) && !meth.locks && decide (parseMethodDescriptor y.desc = some meth.sig)) = true) : (Jvm.Cond.code y bytes mx rt).before a s = true := by
  simp only [Bool.and_eq_true, beq_iff_eq, Bool.not_eq_true', decide_eq_true_eq] at h5
  obtain ⟨⟨⟨⟨⟨g1, g2⟩, g3⟩, g4⟩, g5⟩, g6⟩ := h5
  simp [Cond.before, Cond.holds, Cond.value, h1, h2, h3, h4, g1, g2, g3, g4, g5, g6]
def isCode : Jvm.Cond → Bool
  | .code _ _ _ _ => true
  | _ => false
theorem all_split {L : List Jvm.Cond} {P : Jvm.Cond → Bool} (h1 : L.all (fun c => isCode c || P c) = true) (h2 : ∀ c ∈ L.filter isCode, P c = true) : L.all P = true := by
  refine List.all_eq_true.mpr fun c hc => ?_
  have h := List.all_eq_true.mp h1 c hc
  rcases Bool.eq_false_or_eq_true (isCode c) with hi | hi
  · exact h2 c (List.mem_filter.mpr ⟨hc, hi⟩)
  · simpa [hi] using h
set_option maxRecDepth 65536 in
theorem w_c0 : (Jvm.Cond.code x code maxLocals ret).before args0 about1 = true := code_word (m := ⟨1, 4⟩) (meth := k1m4) (c := k1c4) (by decide +kernel) rfl rfl rfl (by decide +kernel)
set_option maxRecDepth 65536 in
theorem w_c1 : (Jvm.Cond.code ({ cls := "com/example/idemkey/idemkey/key/StructuredFieldStringSkipSpacesPinLaw", name := "ch", desc := "(I)C" } : Jvm.MethodName) method_2_code (1 : Nat) (Option.some Jvm.ClassFile.FieldType.char)).before args0 about1 = true := code_word (m := ⟨1, 1⟩) (meth := k1m1) (c := k1c1) (by decide +kernel) rfl rfl rfl (by decide +kernel)
set_option maxRecDepth 65536 in
theorem w_c2 : (Jvm.Cond.code ({ cls := "com/example/idemkey/idemkey/key/StructuredFieldStringSkipSpacesPinLaw", name := "make", desc := "(ICCCC)Ljava/lang/String;" } : Jvm.MethodName) method_3_code (5 : Nat) (Option.some (Jvm.ClassFile.FieldType.object "java/lang/String"))).before args0 about1 = true := code_word (m := ⟨1, 2⟩) (meth := k1m2) (c := k1c2) (by decide +kernel) rfl rfl rfl (by decide +kernel)
set_option maxRecDepth 65536 in
theorem w_c3 : (Jvm.Cond.code ({ cls := "java/lang/String", name := "<init>", desc := "([C)V" } : Jvm.MethodName) jdk_42_method_3_code (2 : Nat) (Option.none : Option Jvm.ClassFile.FieldType)).before args0 about1 = true := code_word (m := ⟨7, 1⟩) (meth := k7m1) (c := k7c1) (by decide +kernel) rfl rfl rfl (by decide +kernel)
set_option maxRecDepth 65536 in
theorem w_c4 : (Jvm.Cond.code ({ cls := "java/lang/String", name := "<init>", desc := "([CIILjava/lang/Void;)V" } : Jvm.MethodName) jdk_42_method_149_code (6 : Nat) (Option.none : Option Jvm.ClassFile.FieldType)).before args0 about1 = true := code_word (m := ⟨7, 4⟩) (meth := k7m4) (c := k7c4) (by decide +kernel) rfl rfl rfl (by decide +kernel)
set_option maxRecDepth 65536 in
theorem w_c5 : (Jvm.Cond.code ({ cls := "java/lang/Object", name := "<init>", desc := "()V" } : Jvm.MethodName) object_method_1_code (1 : Nat) (Option.none : Option Jvm.ClassFile.FieldType)).before args0 about1 = true := code_word (m := ⟨0, 0⟩) (meth := k0m0) (c := k0c0) (by decide +kernel) rfl rfl rfl (by decide +kernel)
set_option maxRecDepth 65536 in
theorem w_c6 : (Jvm.Cond.code ({ cls := "com/example/idemkey/idemkey/key/StructuredFieldString", name := "skipSpaces", desc := "(Ljava/lang/String;I)I" } : Jvm.MethodName) prog_7_method_3_code (3 : Nat) (Option.some Jvm.ClassFile.FieldType.int)).before args0 about1 = true := code_word (m := ⟨8, 1⟩) (meth := k8m1) (c := k8c1) (by decide +kernel) rfl rfl rfl (by decide +kernel)
set_option maxRecDepth 65536 in
theorem w_c7 : (Jvm.Cond.code ({ cls := "java/lang/String", name := "length", desc := "()I" } : Jvm.MethodName) jdk_42_method_54_code (1 : Nat) (Option.some Jvm.ClassFile.FieldType.int)).before args0 about1 = true := code_word (m := ⟨7, 2⟩) (meth := k7m2) (c := k7c2) (by decide +kernel) rfl rfl rfl (by decide +kernel)
set_option maxRecDepth 65536 in
theorem w_c8 : (Jvm.Cond.code ({ cls := "java/lang/String", name := "coder", desc := "()B" } : Jvm.MethodName) jdk_42_method_152_code (1 : Nat) (Option.some Jvm.ClassFile.FieldType.byte)).before args0 about1 = true := code_word (m := ⟨7, 5⟩) (meth := k7m5) (c := k7c5) (by decide +kernel) rfl rfl rfl (by decide +kernel)
set_option maxRecDepth 65536 in
theorem w_c9 : (Jvm.Cond.code ({ cls := "com/example/idemkey/idemkey/key/StructuredFieldStringSkipSpacesPinLaw", name := "spaceIfSkipped", desc := "(IIIC)Z" } : Jvm.MethodName) method_4_code (4 : Nat) (Option.some Jvm.ClassFile.FieldType.boolean)).before args0 about1 = true := code_word (m := ⟨1, 3⟩) (meth := k1m3) (c := k1c3) (by decide +kernel) rfl rfl rfl (by decide +kernel)
set_option maxRecDepth 65536 in
theorem w_c10 : (Jvm.Cond.code ({ cls := "java/lang/StringUTF16", name := "compress", desc := "([CII)[B" } : Jvm.MethodName) jdk_52_method_16_code (6 : Nat) (Option.some (Jvm.ClassFile.FieldType.array Jvm.ClassFile.FieldType.byte))).before args0 about1 = true := code_word (m := ⟨9, 2⟩) (meth := k9m2) (c := k9c2) (by decide +kernel) rfl rfl rfl (by decide +kernel)
set_option maxRecDepth 65536 in
theorem w_c11 : (Jvm.Cond.code ({ cls := "java/lang/StringUTF16", name := "compress", desc := "([CI[BII)I" } : Jvm.MethodName) jdk_52_method_21_code (7 : Nat) (Option.some Jvm.ClassFile.FieldType.int)).before args0 about1 = true := code_word (m := ⟨9, 3⟩) (meth := k9m3) (c := k9c3) (by decide +kernel) rfl rfl rfl (by decide +kernel)
set_option maxRecDepth 65536 in
theorem w_c12 : (Jvm.Cond.code ({ cls := "java/lang/StringUTF16", name := "coderFromArrayLen", desc := "([BI)B" } : Jvm.MethodName) jdk_52_method_15_code (2 : Nat) (Option.some Jvm.ClassFile.FieldType.byte)).before args0 about1 = true := code_word (m := ⟨9, 1⟩) (meth := k9m1) (c := k9c1) (by decide +kernel) rfl rfl rfl (by decide +kernel)
set_option maxRecDepth 65536 in
theorem w_c13 : (Jvm.Cond.code ({ cls := "java/lang/String", name := "charAt", desc := "(I)C" } : Jvm.MethodName) jdk_42_method_56_code (2 : Nat) (Option.some Jvm.ClassFile.FieldType.char)).before args0 about1 = true := code_word (m := ⟨7, 3⟩) (meth := k7m3) (c := k7c3) (by decide +kernel) rfl rfl rfl (by decide +kernel)
set_option maxRecDepth 65536 in
theorem w_c14 : (Jvm.Cond.code ({ cls := "java/lang/String", name := "isLatin1", desc := "()Z" } : Jvm.MethodName) jdk_42_method_154_code (1 : Nat) (Option.some Jvm.ClassFile.FieldType.boolean)).before args0 about1 = true := code_word (m := ⟨7, 6⟩) (meth := k7m6) (c := k7c6) (by decide +kernel) rfl rfl rfl (by decide +kernel)
set_option maxRecDepth 65536 in
theorem w_c15 : (Jvm.Cond.code ({ cls := "java/lang/StringLatin1", name := "charAt", desc := "([BI)C" } : Jvm.MethodName) jdk_43_method_2_code (2 : Nat) (Option.some Jvm.ClassFile.FieldType.char)).before args0 about1 = true := code_word (m := ⟨10, 1⟩) (meth := k10m1) (c := k10c1) (by decide +kernel) rfl rfl rfl (by decide +kernel)
set_option maxRecDepth 65536 in
theorem w_c16 : (Jvm.Cond.code ({ cls := "java/lang/String", name := "checkIndex", desc := "(II)V" } : Jvm.MethodName) jdk_42_method_155_code (2 : Nat) (Option.none : Option Jvm.ClassFile.FieldType)).before args0 about1 = true := code_word (m := ⟨7, 7⟩) (meth := k7m7) (c := k7c7) (by decide +kernel) rfl rfl rfl (by decide +kernel)
set_option maxRecDepth 65536 in
theorem w_c17 : (Jvm.Cond.code ({ cls := "jdk/internal/util/Preconditions", name := "checkIndex", desc := "(IILjava/util/function/BiFunction;)I" } : Jvm.MethodName) jdk_41_method_11_code (3 : Nat) (Option.some Jvm.ClassFile.FieldType.int)).before args0 about1 = true := code_word (m := ⟨11, 1⟩) (meth := k11m1) (c := k11c1) (by decide +kernel) rfl rfl rfl (by decide +kernel)
def codes1 : List Jvm.Cond := [Jvm.Cond.code x code maxLocals ret, Jvm.Cond.code ({ cls := "com/example/idemkey/idemkey/key/StructuredFieldStringSkipSpacesPinLaw", name := "ch", desc := "(I)C" } : Jvm.MethodName) method_2_code (1 : Nat) (Option.some Jvm.ClassFile.FieldType.char), Jvm.Cond.code ({ cls := "com/example/idemkey/idemkey/key/StructuredFieldStringSkipSpacesPinLaw", name := "make", desc := "(ICCCC)Ljava/lang/String;" } : Jvm.MethodName) method_3_code (5 : Nat) (Option.some (Jvm.ClassFile.FieldType.object "java/lang/String")), Jvm.Cond.code ({ cls := "java/lang/String", name := "<init>", desc := "([C)V" } : Jvm.MethodName) jdk_42_method_3_code (2 : Nat) (Option.none : Option Jvm.ClassFile.FieldType), Jvm.Cond.code ({ cls := "java/lang/String", name := "<init>", desc := "([CIILjava/lang/Void;)V" } : Jvm.MethodName) jdk_42_method_149_code (6 : Nat) (Option.none : Option Jvm.ClassFile.FieldType), Jvm.Cond.code ({ cls := "java/lang/Object", name := "<init>", desc := "()V" } : Jvm.MethodName) object_method_1_code (1 : Nat) (Option.none : Option Jvm.ClassFile.FieldType), Jvm.Cond.code ({ cls := "com/example/idemkey/idemkey/key/StructuredFieldString", name := "skipSpaces", desc := "(Ljava/lang/String;I)I" } : Jvm.MethodName) prog_7_method_3_code (3 : Nat) (Option.some Jvm.ClassFile.FieldType.int), Jvm.Cond.code ({ cls := "java/lang/String", name := "length", desc := "()I" } : Jvm.MethodName) jdk_42_method_54_code (1 : Nat) (Option.some Jvm.ClassFile.FieldType.int), Jvm.Cond.code ({ cls := "java/lang/String", name := "coder", desc := "()B" } : Jvm.MethodName) jdk_42_method_152_code (1 : Nat) (Option.some Jvm.ClassFile.FieldType.byte), Jvm.Cond.code ({ cls := "com/example/idemkey/idemkey/key/StructuredFieldStringSkipSpacesPinLaw", name := "spaceIfSkipped", desc := "(IIIC)Z" } : Jvm.MethodName) method_4_code (4 : Nat) (Option.some Jvm.ClassFile.FieldType.boolean), Jvm.Cond.code ({ cls := "java/lang/StringUTF16", name := "compress", desc := "([CII)[B" } : Jvm.MethodName) jdk_52_method_16_code (6 : Nat) (Option.some (Jvm.ClassFile.FieldType.array Jvm.ClassFile.FieldType.byte)), Jvm.Cond.code ({ cls := "java/lang/StringUTF16", name := "compress", desc := "([CI[BII)I" } : Jvm.MethodName) jdk_52_method_21_code (7 : Nat) (Option.some Jvm.ClassFile.FieldType.int), Jvm.Cond.code ({ cls := "java/lang/StringUTF16", name := "coderFromArrayLen", desc := "([BI)B" } : Jvm.MethodName) jdk_52_method_15_code (2 : Nat) (Option.some Jvm.ClassFile.FieldType.byte), Jvm.Cond.code ({ cls := "java/lang/String", name := "charAt", desc := "(I)C" } : Jvm.MethodName) jdk_42_method_56_code (2 : Nat) (Option.some Jvm.ClassFile.FieldType.char), Jvm.Cond.code ({ cls := "java/lang/String", name := "isLatin1", desc := "()Z" } : Jvm.MethodName) jdk_42_method_154_code (1 : Nat) (Option.some Jvm.ClassFile.FieldType.boolean), Jvm.Cond.code ({ cls := "java/lang/StringLatin1", name := "charAt", desc := "([BI)C" } : Jvm.MethodName) jdk_43_method_2_code (2 : Nat) (Option.some Jvm.ClassFile.FieldType.char), Jvm.Cond.code ({ cls := "java/lang/String", name := "checkIndex", desc := "(II)V" } : Jvm.MethodName) jdk_42_method_155_code (2 : Nat) (Option.none : Option Jvm.ClassFile.FieldType), Jvm.Cond.code ({ cls := "jdk/internal/util/Preconditions", name := "checkIndex", desc := "(IILjava/util/function/BiFunction;)I" } : Jvm.MethodName) jdk_41_method_11_code (3 : Nat) (Option.some Jvm.ClassFile.FieldType.int)]
set_option maxRecDepth 65536 in
theorem codes_eq : words1.filter isCode = codes1 := rfl
theorem w_codes : ∀ c ∈ words1.filter isCode, c.before args0 about1 = true := by
  rw [codes_eq]
  intro c hc
  simp only [codes1, List.mem_cons, List.not_mem_nil, or_false] at hc
  rcases hc with rfl | rfl | rfl | rfl | rfl | rfl | rfl | rfl | rfl | rfl | rfl | rfl | rfl | rfl | rfl | rfl | rfl | rfl
  · exact w_c0
  · exact w_c1
  · exact w_c2
  · exact w_c3
  · exact w_c4
  · exact w_c5
  · exact w_c6
  · exact w_c7
  · exact w_c8
  · exact w_c9
  · exact w_c10
  · exact w_c11
  · exact w_c12
  · exact w_c13
  · exact w_c14
  · exact w_c15
  · exact w_c16
  · exact w_c17
set_option maxRecDepth 65536 in
theorem w_t1 : (words1.take 24).all (fun c => isCode c || c.before args0 about1) = true := by decide +kernel
set_option maxRecDepth 65536 in
theorem w_t2 : ((words1.drop 24).take 24).all (fun c => isCode c || c.before args0 about1) = true := by decide +kernel
set_option maxRecDepth 65536 in
theorem w_t3 : (((words1.drop 24).drop 24).take 24).all (fun c => isCode c || c.before args0 about1) = true := by decide +kernel
set_option maxRecDepth 65536 in
theorem w_t4 : (((words1.drop 24).drop 24).drop 24).all (fun c => isCode c || c.before args0 about1) = true := by decide +kernel
theorem w_tables : (allAtoms (Jvm.Cond.code x code maxLocals ret :: tables_1)).before args0 about1 = true := by
  rw [allAtoms_all]
  show words1.all (fun c => c.before args0 about1) = true
  refine all_split ?_ w_codes
  rw [← List.take_append_drop 24 words1, List.all_append, w_t1, ← List.take_append_drop 24 (words1.drop 24), List.all_append, w_t2, ← List.take_append_drop 24 ((words1.drop 24).drop 24), List.all_append, w_t3, w_t4]
  rfl
set_option maxRecDepth 65536 in
theorem w_rest : rest_1_c.before args0 about1 = true := by decide +kernel
set_option maxRecDepth 65536 in
theorem w_case : (Jvm.Cond.and given_1 narrow_1).before args0 about1 = true := by decide +kernel
set_option maxRecDepth 65536 in
theorem w_consts : constsHeld consts_1 about1 := Jvm.Lit.constsHeldB_iff.mp (by decide +kernel)
theorem w_applies : (headSpec (Jvm.Cond.code x code maxLocals ret :: tables_1) room_1).applies x e0.platform about1 = true :=
  (Spec.applies_iff w_frames).mpr ⟨w_running, w_runnable, w_alone, w_named, w_hears, w_ripe, w_room, w_tables⟩
theorem atStart : AtStart classFile x code maxLocals ret World_1 tables_1 room_1 Calls_1 rest_1 Pre_1 launch0 p0 e0 about1 theMethod args0 below0 :=
  ⟨lists_1, trivial, launch0.admits_env _ _ _, launch0.least_env, fairChoices_fair.cas, fairChoices_fair.clock, w_frames, w_args, w_heap, w_applies, ⟨w_consts, trivial⟩, w_rest, w_case⟩
end start1
theorem witness_1 : WitnessClaimed_1 := ⟨start1.p0, start1.e0, start1.about1, start1.theMethod, start1.args0, start1.below0, start1.atStart⟩
end Jvm.Pilot.@@N@@
