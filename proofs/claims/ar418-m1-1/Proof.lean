import JvmDerived
import JvmDerived.Pilot.@@N@@Statement
import JvmDerived.Pilot.@@N@@Code
set_option linter.unusedVariables false
set_option linter.unusedSimpArgs false
namespace Jvm.RoadKit
open Sem ClassFile Op Lib Jvm.Stand Jvm.Free Jvm.LawKit
section OwnKit
variable {p : Program} {l : Launch} {e : Env} {R : Room} {s : State} {m : MethodId} {args : Array Value} {below : List Frame} {meth : Method} {c : Code} {T : State} {locs : List Loc} {cells slots : Nat} {Z : State} {a0 : Array Value} {h h' : Heap}
/-- from this frame on the method ends, and Post says how -/
def own_Fin (p : Program) (e : Env) (below : List Frame) (Post : Outcome → State → Prop) (T : State) (g : JFrame) : Prop :=
  ∃ (t : State) (o : Outcome), Steps p.tables e below (T.setTop g) t ∧ t.status = .running ∧ Ended t below o ∧ Post o t
theorem own_step {Post : Outcome → State → Prop} {T T' : State} {g g' : JFrame} (st : ∀ t, Steps p.tables e below (T'.setTop g') t → Steps p.tables e below (T.setTop g) t) (k : own_Fin p e below Post T' g') : own_Fin p e below Post T g := by
  obtain ⟨t, o, a, b⟩ := k
  exact ⟨t, o, st _ a, b⟩
abbrev own_PostN (s : State) (rm : Room) (Q : Option Value → Heap → List Loc → Prop) : Outcome → State → Prop := fun o U' => ∃ v L, o = .returned v ∧ Q v U'.heap L ∧ FrameEnd s o U' L rm.cells rm.slots
/-- a body's contract: for these arguments, at this heap, over tables warmer than Z's -/
def own_Con (l : Launch) (Z : State) (y : MethodName) (bytes : ByteArray) (maxL : Nat) (ret : Option FieldType) (rm : Room) (as' : Array Value) (h : Heap) (Q : Option Value → Heap → List Loc → Prop) : Prop :=
  ∀ ws : List Cond, MetFree l y (head1 (Cond.code y bytes maxL ret :: ws) rm) (fun a U => a = as' ∧ Z.Warmed39 U.vm ∧ U.heap = h) (fun _ _ _ _ _ => True) (fun _ U o U' => ∃ v L, o = .returned v ∧ Q v U'.heap L ∧ FrameEnd U o U' L rm.cells rm.slots)
theorem own_con {y : MethodName} {bytes : ByteArray} {maxL : Nat} {ret : Option FieldType} {rm : Room} {as' : Array Value} {Q : Option Value → Heap → List Loc → Prop} {ls : Array Slot} (hpl : plainName y.cls = true) (ef : ∀ m, entryFrame m as' maxL = mkF m 0 ls [])
    (body : ∀ (p : Program) (e : Env) (s : State) (m : MethodId) (below : List Frame) (meth : Method) (c : Code) (s₁ : State), p.tables.exec = Jvm.exec → c.code = bytes → c.maxLocals = maxL → s.vm.findClass y.cls = some m.cls → meth.name = y.name → meth.sig.returnType = ret → meth.locks = false → Z.Warmed39 s.vm →
      Stand p l e rm s m as' below meth c s₁ [] 0 0 → s₁.heap = h → own_Fin p e below (own_PostN s rm Q) s₁ (mkF m 0 ls [])) : own_Con l Z y bytes maxL ret rm as' h Q := by
  intro ws
  refine MetFree.of_bodySF (plainFor_of_name hpl) hisR ?_
  intro p e s m args below meth c s₁ Bd hml0 hP hK
  obtain ⟨rfl, hZ, hh⟩ := hP
  have k := body p e s m below meth c s₁ Bd.exec Bd.bytes hml0 (findClass_of_methodNamed Bd.named) (name_of_methodNamed Bd.named Bd.method).1 Bd.returns Bd.notSynchronized hZ (Stand.of_body Bd) (by rw [← hh, Bd.state]; rfl)
  rw [← ef m] at k
  exact k
theorem own_ret {rm : Room} {Q : Option Value → Heap → List Loc → Prop} (X : Stand p l e R s m args below meth c T locs cells slots) (hlk : meth.locks = false) {v : Option Value} (hv : meth.sig.returnType = none → v = none) {g : JFrame}
    (st : ∀ fs, (∀ (f : JFrame) (acts : List Action), f.method = m → f.locked = none → f.entered = [] → (doReturn e (T.setTop f) acts v).1 = T.setFrames fs) → Steps p.tables e below (T.setTop g) (T.setFrames fs))
    (eT : T.heap = h) (hQ : Q v h locs) (hc : cells ≤ rm.cells) (hs : slots ≤ rm.slots) : own_Fin p e below (own_PostN s rm Q) T g := by
  obtain ⟨fs, hr, hrun, hended, hW, hsame⟩ := X.leave (v := v) hv hlk
  refine ⟨_, _, st fs hr, hrun, hended, v, locs, rfl, ?_, ⟨_, rfl⟩, hW, hsame.mono hc hs⟩
  show Q v T.heap locs
  rw [eT]; exact hQ
theorem own_retV {rm : Room} {Q : Option Value → Heap → List Loc → Prop} (X : Stand p l e R s m args below meth c T locs cells slots) (hx : p.tables.exec = Jvm.exec) (hlk : meth.locks = false) (hret : meth.sig.returnType = none) {pc : Nat} {Ls : Array Slot} (hd : decode c.code pc = .ok (.return_, 1))
    (eT : T.heap = h) (hQ : Q none h locs) (hc : cells ≤ rm.cells) (hs : slots ≤ rm.slots) : own_Fin p e below (own_PostN s rm Q) T (mkF m pc Ls []) :=
  own_ret X hlk (fun _ => rfl) (fun fs hr => X.returnOut hx hret hd hr) eT hQ hc hs
theorem own_retN {rm : Room} {Q : Option Value → Heap → List Loc → Prop} (X : Stand p l e R s m args below meth c T locs cells slots) (hx : p.tables.exec = Jvm.exec) (hlk : meth.locks = false) {t : FieldType} (hret : meth.sig.returnType = some t) (ht : t = .boolean ∨ t = .byte ∨ t = .char ∨ t = .short) {pc : Nat} {Ls : Array Slot} {z : Int32} {rest : List Value} (hd : decode c.code pc = .ok (.ireturn, 1))
    (eT : T.heap = h) (hQ : Q (some (.int (nar t z))) h locs) (hc : cells ≤ rm.cells) (hs : slots ≤ rm.slots) : own_Fin p e below (own_PostN s rm Q) T (mkF m pc Ls (.int z :: rest)) :=
  own_ret X hlk (fun q => by rw [hret] at q; cases q) (fun fs hr => retN X hx hret ht hd hr) eT hQ hc hs
theorem own_retI {rm : Room} {Q : Option Value → Heap → List Loc → Prop} (X : Stand p l e R s m args below meth c T locs cells slots) (hx : p.tables.exec = Jvm.exec) (hlk : meth.locks = false) (hret : meth.sig.returnType = some .int) {pc : Nat} {Ls : Array Slot} {z : Int32} {rest : List Value} (hd : decode c.code pc = .ok (.ireturn, 1))
    (eT : T.heap = h) (hQ : Q (some (.int z)) h locs) (hc : cells ≤ rm.cells) (hs : slots ≤ rm.slots) : own_Fin p e below (own_PostN s rm Q) T (mkF m pc Ls (.int z :: rest)) :=
  own_ret X hlk (fun q => by rw [hret] at q; cases q) (fun fs hr => retOut X hx hret rfl (Or.inl ⟨rfl, Or.inl rfl, z, rfl⟩) hd hr) eT hQ hc hs
theorem own_retL {rm : Room} {Q : Option Value → Heap → List Loc → Prop} (X : Stand p l e R s m args below meth c T locs cells slots) (hx : p.tables.exec = Jvm.exec) (hlk : meth.locks = false) (hret : meth.sig.returnType = some .long) {pc : Nat} {Ls : Array Slot} {z : Int64} {rest : List Value} (hd : decode c.code pc = .ok (.lreturn, 1))
    (eT : T.heap = h) (hQ : Q (some (.long z)) h locs) (hc : cells ≤ rm.cells) (hs : slots ≤ rm.slots) : own_Fin p e below (own_PostN s rm Q) T (mkF m pc Ls (.long z :: rest)) :=
  own_ret X hlk (fun q => by rw [hret] at q; cases q) (fun fs hr => retOut X hx hret rfl (Or.inr (Or.inl ⟨rfl, rfl, z, rfl⟩)) hd hr) eT hQ hc hs
theorem own_retA {rm : Room} {Q : Option Value → Heap → List Loc → Prop} (X : Stand p l e R s m args below meth c T locs cells slots) (hx : p.tables.exec = Jvm.exec) (hlk : meth.locks = false) {t : FieldType} (hret : meth.sig.returnType = some t) {w : Value} (hn : narrow t w = w) (ht : t.isReference = true) (hw : w.isRef = true) {pc : Nat} {Ls : Array Slot} {rest : List Value} (hd : decode c.code pc = .ok (.areturn, 1))
    (eT : T.heap = h) (hQ : Q (some w) h locs) (hc : cells ≤ rm.cells) (hs : slots ≤ rm.slots) : own_Fin p e below (own_PostN s rm Q) T (mkF m pc Ls (w :: rest)) :=
  own_ret X hlk (fun q => by rw [hret] at q; cases q) (fun fs hr => retOut X hx hret hn (Or.inr (Or.inr (Or.inr (Or.inr ⟨rfl, ht, hw⟩)))) hd hr) eT hQ hc hs
/-- a constructor, by its contract -/
theorem own_callC {y : MethodName} {bytes : ByteArray} {maxL : Nat} {rm : Room} {Q : Option Value → Heap → List Loc → Prop} {own : String} {index W : Nat} (X : Stand p l e R s m args below meth c T locs cells slots) (hx : p.tables.exec = Jvm.exec) (hZ : Z.Warmed39 s.vm) (hown : s.vm.findClass own = some m.cls) (hy1 : y.name = "<init>")
    (w1 : (Cond.methodLink own index y).before a0 Z = true) (w2 : (Cond.instanceMethod y).before a0 Z = true) (wc : (Cond.code y bytes maxL none).before a0 Z = true) (wz : (Cond.initialized y.cls).before a0 Z = true) (hy : y.cls ≠ "java/lang/invoke/MethodHandle" ∧ y.cls ≠ "java/lang/invoke/VarHandle")
    {a : Addr} {g : JFrame} (hg : g.method = m) (hsize : g.locals.size = c.maxLocals) {argsL rest : List Value} (K : own_Con l Z y bytes maxL none rm (.ref a :: argsL).toArray h Q) (eT : T.heap = h) {ps : List FieldType} {r : Option FieldType} (hpd : parseMethodDescriptor y.desc = some ⟨ps, r⟩) (hlen : argsL.length = ps.length) (hstack : g.stack = argsL.reverse ++ .ref a :: rest) (hW : 2 * g.monitorRoom + (rest.map fun v => v.category).sum ≤ W)
    (hdg : decode c.code g.pc = .ok (.invokespecial index, 3)) (hf : rm.frames + 1 ≤ R.frames) (hl : W + (maxL + 11) + rm.locals ≤ R.locals) (hcc : cells + rm.cells ≤ R.cells) (hss : slots + rm.slots ≤ R.slots) :
    ∃ (T' : State) (L : List Loc) (v : Option Value) (h' : Heap), Stand p l e R s m args below meth c T' (locs ++ L) (cells + rm.cells) (slots + rm.slots) ∧ T'.heap = h' ∧ Q v h' L ∧ ∀ t, Steps p.tables e below (T'.setTop { g with pc := g.pc + 3, stack := v.toList ++ rest }) t → Steps p.tables e below (T.setTop g) t := by
  obtain ⟨v, _, ⟨T', L', k', n'⟩, -, X', ⟨L, hQ, l1, l2, l3⟩, st⟩ := X.specialBack hx hy1 hown (mvT hZ w1) (mvT hZ w2) (mvT hZ wc) hy (backOf (K []) hZ wc wz hf hl) hg hsize (Steps.refl _) (a := a) (argsL := argsL) (rest := rest) (lenOf hpd hlen) hstack hW hdg (fun _ _ => ⟨rfl, eT, hcc, hss⟩)
  dsimp only [Pt.U, Pt.locs, Pt.cells, Pt.slots] at X' l1 l2 l3 st hQ
  subst l1 l2 l3
  exact ⟨T', L, v, _, X', rfl, hQ, fun t k => st.trans k⟩
/-- a static method, by its contract -/
theorem own_callS {y : MethodName} {bytes : ByteArray} {maxL : Nat} {ret : Option FieldType} {rm : Room} {Q : Option Value → Heap → List Loc → Prop} {own : String} {index W : Nat} (X : Stand p l e R s m args below meth c T locs cells slots) (hx : p.tables.exec = Jvm.exec) (hZ : Z.Warmed39 s.vm) (hown : s.vm.findClass own = some m.cls)
    (w1 : (Cond.methodLink own index y).before a0 Z = true) (w2 : (Cond.static y).before a0 Z = true) (wc : (Cond.code y bytes maxL ret).before a0 Z = true) (wz : (Cond.initialized y.cls).before a0 Z = true) (hy : y.cls ≠ "java/lang/invoke/MethodHandle" ∧ y.cls ≠ "java/lang/invoke/VarHandle")
    {g : JFrame} (hg : g.method = m) (hsize : g.locals.size = c.maxLocals) {argsL rest : List Value} (K : own_Con l Z y bytes maxL ret rm argsL.toArray h Q) (eT : T.heap = h) {ps : List FieldType} {r : Option FieldType} (hpd : parseMethodDescriptor y.desc = some ⟨ps, r⟩) (hlen : argsL.length = ps.length) (hstack : g.stack = argsL.reverse ++ rest) (hW : 2 * g.monitorRoom + (rest.map fun v => v.category).sum ≤ W)
    (hdg : decode c.code g.pc = .ok (.invokestatic index, 3)) (hf : rm.frames + 1 ≤ R.frames) (hl : W + (maxL + 11) + rm.locals ≤ R.locals) (hcc : cells + rm.cells ≤ R.cells) (hss : slots + rm.slots ≤ R.slots) :
    ∃ (T' : State) (L : List Loc) (v : Option Value) (h' : Heap), Stand p l e R s m args below meth c T' (locs ++ L) (cells + rm.cells) (slots + rm.slots) ∧ T'.heap = h' ∧ Q v h' L ∧ ∀ t, Steps p.tables e below (T'.setTop { g with pc := g.pc + 3, stack := v.toList ++ rest }) t → Steps p.tables e below (T.setTop g) t := by
  obtain ⟨v, _, ⟨T', L', k', n'⟩, -, X', ⟨L, hQ, l1, l2, l3⟩, st⟩ := Jvm.LawKit.callS X hx hown (mvT hZ w1) (mvT hZ w2) (mvT hZ wz) (mvT hZ wc) hy (backOf (K []) hZ wc wz hf hl) hg hsize (argsL := argsL) (rest := rest) (lenOf hpd hlen) hstack hW hdg (fun _ _ => ⟨rfl, eT, hcc, hss⟩)
  dsimp only [Pt.U, Pt.locs, Pt.cells, Pt.slots] at X' l1 l2 l3 st hQ
  subst l1 l2 l3
  exact ⟨T', L, v, _, X', rfl, hQ, fun t k => st _ k⟩
/-- a static method that a class above declares -/
theorem own_callSU {x : MethodName} {owner : String} {bytes : ByteArray} {maxL : Nat} {ret : Option FieldType} {rm : Room} {Q : Option Value → Heap → List Loc → Prop} {own : String} {index W : Nat} (X : Stand p l e R s m args below meth c T locs cells slots) (hx : p.tables.exec = Jvm.exec) (hZ : Z.Warmed39 s.vm) (hown : s.vm.findClass own = some m.cls)
    (w1 : (Cond.methodLink own index x).before a0 Z = true) (ws : (Cond.sameMethod x.cls owner x.name x.desc).before a0 Z = true) (w2 : (Cond.static ⟨owner, x.name, x.desc⟩).before a0 Z = true) (wc : (Cond.code ⟨owner, x.name, x.desc⟩ bytes maxL ret).before a0 Z = true) (wz : (Cond.initialized owner).before a0 Z = true) (hy : owner ≠ "java/lang/invoke/MethodHandle" ∧ owner ≠ "java/lang/invoke/VarHandle")
    {g : JFrame} (hg : g.method = m) (hsize : g.locals.size = c.maxLocals) {argsL rest : List Value} (K : own_Con l Z ⟨owner, x.name, x.desc⟩ bytes maxL ret rm argsL.toArray h Q) (eT : T.heap = h) {ps : List FieldType} {r : Option FieldType} (hpd : parseMethodDescriptor x.desc = some ⟨ps, r⟩) (hlen : argsL.length = ps.length) (hstack : g.stack = argsL.reverse ++ rest) (hW : 2 * g.monitorRoom + (rest.map fun v => v.category).sum ≤ W)
    (hdg : decode c.code g.pc = .ok (.invokestatic index, 3)) (hf : rm.frames + 1 ≤ R.frames) (hl : W + (maxL + 11) + rm.locals ≤ R.locals) (hcc : cells + rm.cells ≤ R.cells) (hss : slots + rm.slots ≤ R.slots) :
    ∃ (T' : State) (L : List Loc) (v : Option Value) (h' : Heap), Stand p l e R s m args below meth c T' (locs ++ L) (cells + rm.cells) (slots + rm.slots) ∧ T'.heap = h' ∧ Q v h' L ∧ ∀ t, Steps p.tables e below (T'.setTop { g with pc := g.pc + 3, stack := v.toList ++ rest }) t → Steps p.tables e below (T.setTop g) t := by
  have wc' : (Cond.code ⟨owner, x.name, x.desc⟩ bytes maxL ret).before args s = true := mvT hZ wc
  obtain ⟨mk, hnamed⟩ := Cond.code_named wc'
  obtain ⟨methM, cM, hmethM, -, -, -, -, -, -, hsig⟩ := Cond.code_spec hnamed wc'
  obtain ⟨v, _, ⟨T', L', k', n'⟩, -, X', ⟨L, hQ, l1, l2, l3⟩, st⟩ := X.staticBackUp hx hown (mvT hZ w1) (mvT hZ ws) (mvT hZ w2) (mvT hZ wz) hnamed hmethM hsig hy (backOf (K []) hZ wc wz hf hl) hg hsize (Steps.refl _) (argsL := argsL) (rest := rest) (lenOf hpd hlen) hstack hW hdg (fun _ _ => ⟨rfl, eT, hcc, hss⟩)
  dsimp only [Pt.U, Pt.locs, Pt.cells, Pt.slots] at X' l1 l2 l3 st hQ
  subst l1 l2 l3
  exact ⟨T', L, v, _, X', rfl, hQ, fun t k => st.trans k⟩
/-- an instance method that the receiver's class selects, by its contract -/
theorem own_callV {y : MethodName} {C : String} {bytes : ByteArray} {maxL : Nat} {ret : Option FieldType} {rm : Room} {Q : Option Value → Heap → List Loc → Prop} {own : String} {index W : Nat} (X : Stand p l e R s m args below meth c T locs cells slots) (hx : p.tables.exec = Jvm.exec) (hZ : Z.Warmed39 s.vm) (hown : s.vm.findClass own = some m.cls)
    (w1 : (Cond.methodLink own index y).before a0 Z = true) (wd : (Cond.declares y).before a0 Z = true) (wsel : (Cond.selects C y y).before a0 Z = true) (w2 : (Cond.instanceMethod y).before a0 Z = true) (wc : (Cond.code y bytes maxL ret).before a0 Z = true) (wz : (Cond.initialized y.cls).before a0 Z = true) (hy : y.cls ≠ "java/lang/invoke/MethodHandle" ∧ y.cls ≠ "java/lang/invoke/VarHandle")
    {a : Addr} (E : Exa Z h a C) {g : JFrame} (hg : g.method = m) (hsize : g.locals.size = c.maxLocals) {argsL rest : List Value} (K : own_Con l Z y bytes maxL ret rm (.ref a :: argsL).toArray h Q) (eT : T.heap = h) {ps : List FieldType} {r : Option FieldType} (hpd : parseMethodDescriptor y.desc = some ⟨ps, r⟩) (hlen : argsL.length = ps.length) (hstack : g.stack = argsL.reverse ++ .ref a :: rest) (hW : 2 * g.monitorRoom + (rest.map fun v => v.category).sum ≤ W)
    (hdg : decode c.code g.pc = .ok (.invokevirtual index, 3)) (hf : rm.frames + 1 ≤ R.frames) (hl : W + (maxL + 11) + rm.locals ≤ R.locals) (hcc : cells + rm.cells ≤ R.cells) (hss : slots + rm.slots ≤ R.slots) :
    ∃ (T' : State) (L : List Loc) (v : Option Value) (h' : Heap), Stand p l e R s m args below meth c T' (locs ++ L) (cells + rm.cells) (slots + rm.slots) ∧ T'.heap = h' ∧ Q v h' L ∧ ∀ t, Steps p.tables e below (T'.setTop { g with pc := g.pc + 3, stack := v.toList ++ rest }) t → Steps p.tables e below (T.setTop g) t := by
  obtain ⟨cB, kB, q1, q2, q3⟩ := isOf hZ eT E
  obtain ⟨v, _, ⟨T', L', k', n'⟩, -, X', ⟨L, hQ, l1, l2, l3⟩, st⟩ := X.virtualBack hx hown (mvT hZ w1) (mvT hZ wd) (notFace_of_selects (args := #[]) (mvT hZ wsel)) (mvT hZ wsel) (mvT hZ w2) hy (backOf (K []) hZ wc wz hf hl) q1 q3 hg hsize (Steps.refl _) (argsL := argsL) (rest := rest) (lenOf hpd hlen) hstack hW hdg (fun _ _ => ⟨rfl, eT, hcc, hss⟩)
  dsimp only [Pt.U, Pt.locs, Pt.cells, Pt.slots] at X' l1 l2 l3 st hQ
  subst l1 l2 l3
  exact ⟨T', L, v, _, X', rfl, hQ, fun t k => st.trans k⟩
/-- .. that a class above the named one declares -/
theorem own_callVU {x : MethodName} {C owner : String} {bytes : ByteArray} {maxL : Nat} {ret : Option FieldType} {rm : Room} {Q : Option Value → Heap → List Loc → Prop} {own : String} {index W : Nat} (X : Stand p l e R s m args below meth c T locs cells slots) (hx : p.tables.exec = Jvm.exec) (hZ : Z.Warmed39 s.vm) (hown : s.vm.findClass own = some m.cls)
    (w1 : (Cond.methodLink own index x).before a0 Z = true) (ws : (Cond.sameMethod x.cls owner x.name x.desc).before a0 Z = true) (wd : (Cond.declares ⟨owner, x.name, x.desc⟩).before a0 Z = true) (hy : owner ≠ "java/lang/invoke/MethodHandle" ∧ owner ≠ "java/lang/invoke/VarHandle") (wsel : (Cond.selects C x ⟨owner, x.name, x.desc⟩).before a0 Z = true) (w2 : (Cond.instanceMethod ⟨owner, x.name, x.desc⟩).before a0 Z = true) (wc : (Cond.code ⟨owner, x.name, x.desc⟩ bytes maxL ret).before a0 Z = true) (wz : (Cond.initialized owner).before a0 Z = true)
    {a : Addr} (E : Exa Z h a C) {g : JFrame} (hg : g.method = m) (hsize : g.locals.size = c.maxLocals) {argsL rest : List Value} (K : own_Con l Z ⟨owner, x.name, x.desc⟩ bytes maxL ret rm (.ref a :: argsL).toArray h Q) (eT : T.heap = h) {ps : List FieldType} {r : Option FieldType} (hpd : parseMethodDescriptor x.desc = some ⟨ps, r⟩) (hlen : argsL.length = ps.length) (hstack : g.stack = argsL.reverse ++ .ref a :: rest) (hW : 2 * g.monitorRoom + (rest.map fun v => v.category).sum ≤ W)
    (hdg : decode c.code g.pc = .ok (.invokevirtual index, 3)) (hf : rm.frames + 1 ≤ R.frames) (hl : W + (maxL + 11) + rm.locals ≤ R.locals) (hcc : cells + rm.cells ≤ R.cells) (hss : slots + rm.slots ≤ R.slots) :
    ∃ (T' : State) (L : List Loc) (v : Option Value) (h' : Heap), Stand p l e R s m args below meth c T' (locs ++ L) (cells + rm.cells) (slots + rm.slots) ∧ T'.heap = h' ∧ Q v h' L ∧ ∀ t, Steps p.tables e below (T'.setTop { g with pc := g.pc + 3, stack := v.toList ++ rest }) t → Steps p.tables e below (T.setTop g) t := by
  obtain ⟨cB, kB, q1, q2, q3⟩ := isOf hZ eT E
  obtain ⟨v, _, ⟨T', L', k', n'⟩, -, X', ⟨L, hQ, l1, l2, l3⟩, st⟩ := X.virtualBackUp hx hown (mvT hZ w1) (mvT hZ ws) (mvT hZ wd) hy (mvT hZ wsel) (mvT hZ w2) (backOf (K []) hZ wc wz hf hl) q1 q3 hg hsize (Steps.refl _) (argsL := argsL) (rest := rest) (lenOf hpd hlen) hstack hW hdg (fun _ _ => ⟨rfl, eT, hcc, hss⟩)
  dsimp only [Pt.U, Pt.locs, Pt.cells, Pt.slots] at X' l1 l2 l3 st hQ
  subst l1 l2 l3
  exact ⟨T', L, v, _, X', rfl, hQ, fun t k => st.trans k⟩
/-- an object of just this class, no box of the VM's own -/
def own_Obj (Z : State) (h : Heap) (a : Addr) (C : String) : Prop := Exa Z h a C ∧ ∃ cell : Cell, h[a]? = some cell ∧ cell.vm ≠ .unknown
theorem own_Obj.new {a : Addr} {C : String} (E : Exa Z h a C) (N : ∃ cell : Cell, h[a]? = some cell ∧ cell.vm = .none ∧ cell.monitor = {}) : own_Obj Z h a C := by
  obtain ⟨cell, h1, h2, -⟩ := N
  exact ⟨E, cell, h1, by rw [h2]; simp⟩
theorem own_Obj.lt {a : Addr} {C : String} (F : own_Obj Z h a C) : a < h.size := F.1.lt
theorem own_Obj.ext {a : Addr} {C : String} (F : own_Obj Z h a C) (E : Ext h h') : own_Obj Z h' a C := by
  obtain ⟨F, cell, h1, h2⟩ := F
  exact ⟨F.ext E, cell, E.2 _ _ h1, h2⟩
theorem own_Obj.keep {a : Addr} {C : String} {ws : List Addr} (F : own_Obj Z h a C) (K : Keep h h' ws) : own_Obj Z h' a C := by
  obtain ⟨F, cell, h1, h2⟩ := F
  obtain ⟨c', q1, -, q3, -⟩ := K.2.2 a cell h1
  exact ⟨F.keep K, c', q1, by rw [q3]; exact h2⟩
theorem own_Obj.wr {a b : Addr} {C : String} {sl : Nat} {v : Value} (F : own_Obj Z h a C) (W : Wr h h' b sl v) : own_Obj Z h' a C := F.keep (Keep.of_wr W)
theorem own_Obj.fld {a : Addr} {C O n d : String} {k : Nat} (F : own_Obj Z h a C) (wi : (Cond.instantiable C k).before a0 Z = true) (L : Laid Z a0 C O n d) : ∃ v, Fld Z h a O n d v := fld_laid F.1 F.2 wi L
/-- arraylength, of an array known -/
theorem own_alen (X : Stand p l e R s m args below meth c T locs cells slots) (hx : p.tables.exec = Jvm.exec) (hZ : Z.Warmed39 s.vm) (eT : T.heap = h) {a : Addr} {k : ClassId} {ty : FieldType} {z : Int32} {vs : List Value} {dv : Value} (A : Arv Z h a k ty z vs dv) {g : JFrame} (hg : g.method = m) {rest : List Value} (hs : g.stack = .ref a :: rest) (hd : decode c.code g.pc = .ok (.arraylength, 1)) :
    ∀ t, Steps p.tables e below (T.setTop { g with pc := g.pc + 1, stack := .int z :: rest }) t → Steps p.tables e below (T.setTop g) t := by
  obtain ⟨cl, A, q1, S, q3, H, G⟩ := A
  intro t k
  refine X.arraylength hx (by rw [eT]; exact A.1) (State.isArrayOf_alike hZ.alike A.2.1) hg hs hd _ ?_
  rw [len_of S q3]
  exact k
/-- getfield through an entry that is said resolved -/
theorem own_getR (X : Stand p l e R s m args below meth c T locs cells slots) (hx : p.tables.exec = Jvm.exec) (hZ : Z.Warmed39 s.vm) {own O n d : String} {index : Nat} (hown : s.vm.findClass own = some m.cls) (w : (Cond.fieldRef own index O n d).before a0 Z = true) (eT : T.heap = h) {a : Addr} {v : Value} (F : Fld Z h a O n d v)
    {g : JFrame} (hg : g.method = m) {rest : List Value} (hs : g.stack = .ref a :: rest) (hd : decode c.code g.pc = .ok (.getfield index, 3)) :
    ∀ t, Steps p.tables e below (T.setTop { g with pc := g.pc + 3, stack := v :: rest }) t → Steps p.tables e below (T.setTop g) t := by
  have w1 : (Cond.fieldRef own index O n d).before a0 (Z.setVm s.vm) = true := Cond.fieldRef_warmed39 hZ w
  have w2 : (Cond.fieldRef own index O n d).before a0 ((Z.setVm s.vm).setVm T.vm) = true := Cond.fieldRef_warmed (s := Z.setVm s.vm) X.warmed w1
  have hU : Z.Warmed39 T.vm := wtrans hZ X.warmed
  have hown' : ((Z.setVm s.vm).setVm T.vm).vm.findClass own = some m.cls := by
    show T.vm.findClass own = _
    rw [X.warmed.alike.findClass]; exact hown
  obtain ⟨cf, k, i, f, hf, hr⟩ := Cond.fieldRef_spec hown' w2
  obtain ⟨cell, cf2, k2, i2, f2, h1, h2, h3, h4, -, -, h7⟩ := F
  obtain ⟨k', hi, -⟩ := State.fieldFound?_setVm (s := Z) hU.alike h2
  have hf' : (Z.setVm T.vm).fieldFound? O n d = some (cf, k, i, f) := hf
  rw [hi] at hf'
  cases hf'
  intro t k
  subst hg
  jvm_step X.here [X.here.top, hx, hd, getfield.wp_ready (e := e) (s := T) (f := g) X.here.top hr h3 hs (by rw [eT]; exact h1) h4 h7]
  exact k
end OwnKit
end Jvm.RoadKit
namespace Jvm.Pilot.@@N@@
open Jvm Jvm.ClassFile Sem Op Lib Jvm.Free Jvm.Stand Jvm.LawKit Jvm.RoadKit Bundle Jvm.Pilot.@@N@@.Jvm.D
theorem w0 {a0 : Array Value} {Z : State} (hw : ∀ d ∈ tables_1, d.before a0 Z = true) : (Jvm.Cond.constantLong "com/example/span60/span60/limit/SlidingWindowKeepsPinLaw" (8 : Nat) (16777215 : Int64)).before a0 Z = true := hw _ (List.mem_of_getElem? (i := 0) rfl)
theorem w1 {a0 : Array Value} {Z : State} (hw : ∀ d ∈ tables_1, d.before a0 Z = true) : (Jvm.Cond.classLink "com/example/span60/span60/limit/SlidingWindowKeepsPinLaw" (11 : Nat) "com/example/span60/span60/limit/SlidingWindow").before a0 Z = true := hw _ (List.mem_of_getElem? (i := 1) rfl)
theorem w2 {a0 : Array Value} {Z : State} (hw : ∀ d ∈ tables_1, d.before a0 Z = true) : (Jvm.Cond.instantiable "com/example/span60/span60/limit/SlidingWindow" (7 : Nat)).before a0 Z = true := hw _ (List.mem_of_getElem? (i := 2) rfl)
theorem w3 {a0 : Array Value} {Z : State} (hw : ∀ d ∈ tables_1, d.before a0 Z = true) : (Jvm.Cond.initialized "com/example/span60/span60/limit/SlidingWindow").before a0 Z = true := hw _ (List.mem_of_getElem? (i := 3) rfl)
theorem w4 {a0 : Array Value} {Z : State} (hw : ∀ d ∈ tables_1, d.before a0 Z = true) : (Jvm.Cond.methodLink "com/example/span60/span60/limit/SlidingWindowKeepsPinLaw" (16 : Nat) ({ cls := "com/example/span60/span60/limit/SlidingWindow", name := "<init>", desc := "(JJ)V" } : Jvm.MethodName)).before a0 Z = true := hw _ (List.mem_of_getElem? (i := 4) rfl)
theorem w5 {a0 : Array Value} {Z : State} (hw : ∀ d ∈ tables_1, d.before a0 Z = true) : (Jvm.Cond.instanceMethod ({ cls := "com/example/span60/span60/limit/SlidingWindow", name := "<init>", desc := "(JJ)V" } : Jvm.MethodName)).before a0 Z = true := hw _ (List.mem_of_getElem? (i := 5) rfl)
theorem w6 {a0 : Array Value} {Z : State} (hw : ∀ d ∈ tables_1, d.before a0 Z = true) : (Jvm.Cond.code ({ cls := "com/example/span60/span60/limit/SlidingWindow", name := "<init>", desc := "(JJ)V" } : Jvm.MethodName) prog_33_method_1_code (5 : Nat) (Option.none : Option Jvm.ClassFile.FieldType)).before a0 Z = true := hw _ (List.mem_of_getElem? (i := 6) rfl)
theorem w7 {a0 : Array Value} {Z : State} (hw : ∀ d ∈ tables_1, d.before a0 Z = true) : (Jvm.Cond.methodLink "com/example/span60/span60/limit/SlidingWindow" (1 : Nat) ({ cls := "com/example/span60/span60/limit/SlidingWindow", name := "<init>", desc := "(JJI)V" } : Jvm.MethodName)).before a0 Z = true := hw _ (List.mem_of_getElem? (i := 7) rfl)
theorem w8 {a0 : Array Value} {Z : State} (hw : ∀ d ∈ tables_1, d.before a0 Z = true) : (Jvm.Cond.instanceMethod ({ cls := "com/example/span60/span60/limit/SlidingWindow", name := "<init>", desc := "(JJI)V" } : Jvm.MethodName)).before a0 Z = true := hw _ (List.mem_of_getElem? (i := 8) rfl)
theorem w9 {a0 : Array Value} {Z : State} (hw : ∀ d ∈ tables_1, d.before a0 Z = true) : (Jvm.Cond.code ({ cls := "com/example/span60/span60/limit/SlidingWindow", name := "<init>", desc := "(JJI)V" } : Jvm.MethodName) prog_33_method_3_code (6 : Nat) (Option.none : Option Jvm.ClassFile.FieldType)).before a0 Z = true := hw _ (List.mem_of_getElem? (i := 9) rfl)
theorem w10 {a0 : Array Value} {Z : State} (hw : ∀ d ∈ tables_1, d.before a0 Z = true) : (Jvm.Cond.methodLink "com/example/span60/span60/limit/SlidingWindow" (14 : Nat) ({ cls := "com/example/span60/span60/limit/WindowLimit", name := "<init>", desc := "(JJ)V" } : Jvm.MethodName)).before a0 Z = true := hw _ (List.mem_of_getElem? (i := 10) rfl)
theorem w11 {a0 : Array Value} {Z : State} (hw : ∀ d ∈ tables_1, d.before a0 Z = true) : (Jvm.Cond.instanceMethod ({ cls := "com/example/span60/span60/limit/WindowLimit", name := "<init>", desc := "(JJ)V" } : Jvm.MethodName)).before a0 Z = true := hw _ (List.mem_of_getElem? (i := 11) rfl)
theorem w13 {a0 : Array Value} {Z : State} (hw : ∀ d ∈ tables_1, d.before a0 Z = true) : (Jvm.Cond.initialized "com/example/span60/span60/limit/WindowLimit").before a0 Z = true := hw _ (List.mem_of_getElem? (i := 13) rfl)
theorem w14 {a0 : Array Value} {Z : State} (hw : ∀ d ∈ tables_1, d.before a0 Z = true) : (Jvm.Cond.code ({ cls := "com/example/span60/span60/limit/WindowLimit", name := "<init>", desc := "(JJ)V" } : Jvm.MethodName) prog_44_method_1_code (5 : Nat) (Option.none : Option Jvm.ClassFile.FieldType)).before a0 Z = true := hw _ (List.mem_of_getElem? (i := 14) rfl)
theorem w15 {a0 : Array Value} {Z : State} (hw : ∀ d ∈ tables_1, d.before a0 Z = true) : (Jvm.Cond.methodLink "com/example/span60/span60/limit/WindowLimit" (3 : Nat) ({ cls := "com/example/span60/span60/limit/Algorithm", name := "<init>", desc := "()V" } : Jvm.MethodName)).before a0 Z = true := hw _ (List.mem_of_getElem? (i := 15) rfl)
theorem w16 {a0 : Array Value} {Z : State} (hw : ∀ d ∈ tables_1, d.before a0 Z = true) : (Jvm.Cond.instanceMethod ({ cls := "com/example/span60/span60/limit/Algorithm", name := "<init>", desc := "()V" } : Jvm.MethodName)).before a0 Z = true := hw _ (List.mem_of_getElem? (i := 16) rfl)
theorem w18 {a0 : Array Value} {Z : State} (hw : ∀ d ∈ tables_1, d.before a0 Z = true) : (Jvm.Cond.initialized "com/example/span60/span60/limit/Algorithm").before a0 Z = true := hw _ (List.mem_of_getElem? (i := 18) rfl)
theorem w19 {a0 : Array Value} {Z : State} (hw : ∀ d ∈ tables_1, d.before a0 Z = true) : (Jvm.Cond.code ({ cls := "com/example/span60/span60/limit/Algorithm", name := "<init>", desc := "()V" } : Jvm.MethodName) prog_6_method_1_code (1 : Nat) (Option.none : Option Jvm.ClassFile.FieldType)).before a0 Z = true := hw _ (List.mem_of_getElem? (i := 19) rfl)
theorem w20 {a0 : Array Value} {Z : State} (hw : ∀ d ∈ tables_1, d.before a0 Z = true) : (Jvm.Cond.methodLink "com/example/span60/span60/limit/Algorithm" (1 : Nat) ({ cls := "java/lang/Object", name := "<init>", desc := "()V" } : Jvm.MethodName)).before a0 Z = true := hw _ (List.mem_of_getElem? (i := 20) rfl)
theorem w21 {a0 : Array Value} {Z : State} (hw : ∀ d ∈ tables_1, d.before a0 Z = true) : (Jvm.Cond.instanceMethod ({ cls := "java/lang/Object", name := "<init>", desc := "()V" } : Jvm.MethodName)).before a0 Z = true := hw _ (List.mem_of_getElem? (i := 21) rfl)
theorem w22 {a0 : Array Value} {Z : State} (hw : ∀ d ∈ tables_1, d.before a0 Z = true) : (Jvm.Cond.code ({ cls := "java/lang/Object", name := "<init>", desc := "()V" } : Jvm.MethodName) object_method_1_code (1 : Nat) (Option.none : Option Jvm.ClassFile.FieldType)).before a0 Z = true := hw _ (List.mem_of_getElem? (i := 22) rfl)
theorem w23 {a0 : Array Value} {Z : State} (hw : ∀ d ∈ tables_1, d.before a0 Z = true) : (Jvm.Cond.constantLong "com/example/span60/span60/limit/WindowLimit" (16 : Nat) (9007199254740991 : Int64)).before a0 Z = true := hw _ (List.mem_of_getElem? (i := 23) rfl)
theorem w24 {a0 : Array Value} {Z : State} (hw : ∀ d ∈ tables_1, d.before a0 Z = true) : (Jvm.Cond.fieldLink "com/example/span60/span60/limit/WindowLimit" (18 : Nat) "com/example/span60/span60/limit/WindowLimit" "MAX_WINDOW_SECONDS" "J").before a0 Z = true := hw _ (List.mem_of_getElem? (i := 24) rfl)
theorem w25 {a0 : Array Value} {Z : State} (hw : ∀ d ∈ tables_1, d.before a0 Z = true) : (Jvm.Cond.laysStatic "com/example/span60/span60/limit/WindowLimit" "MAX_WINDOW_SECONDS" "J").before a0 Z = true := hw _ (List.mem_of_getElem? (i := 25) rfl)
theorem w26 {a0 : Array Value} {Z : State} (hw : ∀ d ∈ tables_1, d.before a0 Z = true) : (Jvm.Cond.fieldLink "com/example/span60/span60/limit/WindowLimit" (26 : Nat) "com/example/span60/span60/limit/WindowLimit" "limit" "J").before a0 Z = true := hw _ (List.mem_of_getElem? (i := 26) rfl)
theorem w27 {a0 : Array Value} {Z : State} (hw : ∀ d ∈ tables_1, d.before a0 Z = true) : (Jvm.Cond.laysFinal "com/example/span60/span60/limit/SlidingWindow" "com/example/span60/span60/limit/WindowLimit" "limit" "J").before a0 Z = true := hw _ (List.mem_of_getElem? (i := 27) rfl)
theorem w28 {a0 : Array Value} {Z : State} (hw : ∀ d ∈ tables_1, d.before a0 Z = true) : (Jvm.Cond.fieldLink "com/example/span60/span60/limit/WindowLimit" (29 : Nat) "com/example/span60/span60/limit/WindowLimit" "windowSeconds" "J").before a0 Z = true := hw _ (List.mem_of_getElem? (i := 28) rfl)
theorem w29 {a0 : Array Value} {Z : State} (hw : ∀ d ∈ tables_1, d.before a0 Z = true) : (Jvm.Cond.laysFinal "com/example/span60/span60/limit/SlidingWindow" "com/example/span60/span60/limit/WindowLimit" "windowSeconds" "J").before a0 Z = true := hw _ (List.mem_of_getElem? (i := 29) rfl)
theorem w30 {a0 : Array Value} {Z : State} (hw : ∀ d ∈ tables_1, d.before a0 Z = true) : (Jvm.Cond.constantLong "com/example/span60/span60/limit/WindowLimit" (32 : Nat) (1000 : Int64)).before a0 Z = true := hw _ (List.mem_of_getElem? (i := 30) rfl)
theorem w31 {a0 : Array Value} {Z : State} (hw : ∀ d ∈ tables_1, d.before a0 Z = true) : (Jvm.Cond.fieldLink "com/example/span60/span60/limit/WindowLimit" (34 : Nat) "com/example/span60/span60/limit/WindowLimit" "windowMillis" "J").before a0 Z = true := hw _ (List.mem_of_getElem? (i := 31) rfl)
theorem w32 {a0 : Array Value} {Z : State} (hw : ∀ d ∈ tables_1, d.before a0 Z = true) : (Jvm.Cond.laysFinal "com/example/span60/span60/limit/SlidingWindow" "com/example/span60/span60/limit/WindowLimit" "windowMillis" "J").before a0 Z = true := hw _ (List.mem_of_getElem? (i := 32) rfl)
theorem w33 {a0 : Array Value} {Z : State} (hw : ∀ d ∈ tables_1, d.before a0 Z = true) : (Jvm.Cond.methodLink "com/example/span60/span60/limit/SlidingWindow" (19 : Nat) ({ cls := "com/example/span60/span60/limit/SlidingWindow", name := "maxLimit", desc := "(J)J" } : Jvm.MethodName)).before a0 Z = true := hw _ (List.mem_of_getElem? (i := 33) rfl)
theorem w34 {a0 : Array Value} {Z : State} (hw : ∀ d ∈ tables_1, d.before a0 Z = true) : (Jvm.Cond.static ({ cls := "com/example/span60/span60/limit/SlidingWindow", name := "maxLimit", desc := "(J)J" } : Jvm.MethodName)).before a0 Z = true := hw _ (List.mem_of_getElem? (i := 34) rfl)
theorem w35 {a0 : Array Value} {Z : State} (hw : ∀ d ∈ tables_1, d.before a0 Z = true) : (Jvm.Cond.code ({ cls := "com/example/span60/span60/limit/SlidingWindow", name := "maxLimit", desc := "(J)J" } : Jvm.MethodName) prog_33_method_4_code (2 : Nat) (Option.some Jvm.ClassFile.FieldType.long)).before a0 Z = true := hw _ (List.mem_of_getElem? (i := 35) rfl)
theorem w36 {a0 : Array Value} {Z : State} (hw : ∀ d ∈ tables_1, d.before a0 Z = true) : (Jvm.Cond.methodLink "com/example/span60/span60/limit/SlidingWindow" (47 : Nat) ({ cls := "com/example/span60/span60/limit/SlidingWindow", name := "maxPerPeriod", desc := "(J)J" } : Jvm.MethodName)).before a0 Z = true := hw _ (List.mem_of_getElem? (i := 36) rfl)
theorem w37 {a0 : Array Value} {Z : State} (hw : ∀ d ∈ tables_1, d.before a0 Z = true) : (Jvm.Cond.sameMethod "com/example/span60/span60/limit/SlidingWindow" "com/example/span60/span60/limit/Algorithm" "maxPerPeriod" "(J)J").before a0 Z = true := hw _ (List.mem_of_getElem? (i := 37) rfl)
theorem w38 {a0 : Array Value} {Z : State} (hw : ∀ d ∈ tables_1, d.before a0 Z = true) : (Jvm.Cond.static ({ cls := "com/example/span60/span60/limit/Algorithm", name := "maxPerPeriod", desc := "(J)J" } : Jvm.MethodName)).before a0 Z = true := hw _ (List.mem_of_getElem? (i := 38) rfl)
theorem w39 {a0 : Array Value} {Z : State} (hw : ∀ d ∈ tables_1, d.before a0 Z = true) : (Jvm.Cond.code ({ cls := "com/example/span60/span60/limit/Algorithm", name := "maxPerPeriod", desc := "(J)J" } : Jvm.MethodName) prog_6_method_13_code (2 : Nat) (Option.some Jvm.ClassFile.FieldType.long)).before a0 Z = true := hw _ (List.mem_of_getElem? (i := 39) rfl)
theorem w40 {a0 : Array Value} {Z : State} (hw : ∀ d ∈ tables_1, d.before a0 Z = true) : (Jvm.Cond.constantLong "com/example/span60/span60/limit/Algorithm" (29 : Nat) (9007199254740 : Int64)).before a0 Z = true := hw _ (List.mem_of_getElem? (i := 40) rfl)
theorem w41 {a0 : Array Value} {Z : State} (hw : ∀ d ∈ tables_1, d.before a0 Z = true) : (Jvm.Cond.fieldLink "com/example/span60/span60/limit/SlidingWindow" (23 : Nat) "com/example/span60/span60/limit/SlidingWindow" "mostCounted" "J").before a0 Z = true := hw _ (List.mem_of_getElem? (i := 41) rfl)
theorem w42 {a0 : Array Value} {Z : State} (hw : ∀ d ∈ tables_1, d.before a0 Z = true) : (Jvm.Cond.laysFinal "com/example/span60/span60/limit/SlidingWindow" "com/example/span60/span60/limit/SlidingWindow" "mostCounted" "J").before a0 Z = true := hw _ (List.mem_of_getElem? (i := 42) rfl)
theorem w43 {a0 : Array Value} {Z : State} (hw : ∀ d ∈ tables_1, d.before a0 Z = true) : (Jvm.Cond.methodLink "com/example/span60/span60/limit/SlidingWindow" (31 : Nat) ({ cls := "com/example/span60/span60/limit/SlidingWindow", name := "getWindowMillis", desc := "()J" } : Jvm.MethodName)).before a0 Z = true := hw _ (List.mem_of_getElem? (i := 43) rfl)
theorem w44 {a0 : Array Value} {Z : State} (hw : ∀ d ∈ tables_1, d.before a0 Z = true) : (Jvm.Cond.sameMethod "com/example/span60/span60/limit/SlidingWindow" "com/example/span60/span60/limit/WindowLimit" "getWindowMillis" "()J").before a0 Z = true := hw _ (List.mem_of_getElem? (i := 44) rfl)
theorem w45 {a0 : Array Value} {Z : State} (hw : ∀ d ∈ tables_1, d.before a0 Z = true) : (Jvm.Cond.declares ({ cls := "com/example/span60/span60/limit/WindowLimit", name := "getWindowMillis", desc := "()J" } : Jvm.MethodName)).before a0 Z = true := hw _ (List.mem_of_getElem? (i := 45) rfl)
theorem w46 {a0 : Array Value} {Z : State} (hw : ∀ d ∈ tables_1, d.before a0 Z = true) : (Jvm.Cond.instanceMethod ({ cls := "com/example/span60/span60/limit/WindowLimit", name := "getWindowMillis", desc := "()J" } : Jvm.MethodName)).before a0 Z = true := hw _ (List.mem_of_getElem? (i := 46) rfl)
theorem w47 {a0 : Array Value} {Z : State} (hw : ∀ d ∈ tables_1, d.before a0 Z = true) : (Jvm.Cond.selects "com/example/span60/span60/limit/SlidingWindow" ({ cls := "com/example/span60/span60/limit/SlidingWindow", name := "getWindowMillis", desc := "()J" } : Jvm.MethodName) ({ cls := "com/example/span60/span60/limit/WindowLimit", name := "getWindowMillis", desc := "()J" } : Jvm.MethodName)).before a0 Z = true := hw _ (List.mem_of_getElem? (i := 47) rfl)
theorem w48 {a0 : Array Value} {Z : State} (hw : ∀ d ∈ tables_1, d.before a0 Z = true) : (Jvm.Cond.code ({ cls := "com/example/span60/span60/limit/WindowLimit", name := "getWindowMillis", desc := "()J" } : Jvm.MethodName) prog_44_method_4_code (1 : Nat) (Option.some Jvm.ClassFile.FieldType.long)).before a0 Z = true := hw _ (List.mem_of_getElem? (i := 48) rfl)
theorem w49 {a0 : Array Value} {Z : State} (hw : ∀ d ∈ tables_1, d.before a0 Z = true) : (Jvm.Cond.fieldLink "com/example/span60/span60/limit/SlidingWindow" (37 : Nat) "com/example/span60/span60/limit/SlidingWindow" "subWindows" "I").before a0 Z = true := hw _ (List.mem_of_getElem? (i := 49) rfl)
theorem w50 {a0 : Array Value} {Z : State} (hw : ∀ d ∈ tables_1, d.before a0 Z = true) : (Jvm.Cond.laysFinal "com/example/span60/span60/limit/SlidingWindow" "com/example/span60/span60/limit/SlidingWindow" "subWindows" "I").before a0 Z = true := hw _ (List.mem_of_getElem? (i := 50) rfl)
theorem w51 {a0 : Array Value} {Z : State} (hw : ∀ d ∈ tables_1, d.before a0 Z = true) : (Jvm.Cond.fieldLink "com/example/span60/span60/limit/SlidingWindow" (41 : Nat) "com/example/span60/span60/limit/SlidingWindow" "subWindowMillis" "J").before a0 Z = true := hw _ (List.mem_of_getElem? (i := 51) rfl)
theorem w52 {a0 : Array Value} {Z : State} (hw : ∀ d ∈ tables_1, d.before a0 Z = true) : (Jvm.Cond.laysFinal "com/example/span60/span60/limit/SlidingWindow" "com/example/span60/span60/limit/SlidingWindow" "subWindowMillis" "J").before a0 Z = true := hw _ (List.mem_of_getElem? (i := 52) rfl)
theorem w53 {a0 : Array Value} {Z : State} (hw : ∀ d ∈ tables_1, d.before a0 Z = true) : (Jvm.Cond.fieldLink "com/example/span60/span60/limit/SlidingWindow" (44 : Nat) "com/example/span60/span60/limit/SlidingWindow" "oldestHeldMillis" "J").before a0 Z = true := hw _ (List.mem_of_getElem? (i := 53) rfl)
theorem w54 {a0 : Array Value} {Z : State} (hw : ∀ d ∈ tables_1, d.before a0 Z = true) : (Jvm.Cond.laysFinal "com/example/span60/span60/limit/SlidingWindow" "com/example/span60/span60/limit/SlidingWindow" "oldestHeldMillis" "J").before a0 Z = true := hw _ (List.mem_of_getElem? (i := 54) rfl)
theorem w55 {a0 : Array Value} {Z : State} (hw : ∀ d ∈ tables_1, d.before a0 Z = true) : (Jvm.Cond.classLink "com/example/span60/span60/limit/SlidingWindowKeepsPinLaw" (23 : Nat) "com/example/span60/span60/limit/SlidingWindow$State").before a0 Z = true := hw _ (List.mem_of_getElem? (i := 55) rfl)
theorem w56 {a0 : Array Value} {Z : State} (hw : ∀ d ∈ tables_1, d.before a0 Z = true) : (Jvm.Cond.instantiable "com/example/span60/span60/limit/SlidingWindow$State" (4 : Nat)).before a0 Z = true := hw _ (List.mem_of_getElem? (i := 56) rfl)
theorem w57 {a0 : Array Value} {Z : State} (hw : ∀ d ∈ tables_1, d.before a0 Z = true) : (Jvm.Cond.initialized "com/example/span60/span60/limit/SlidingWindow$State").before a0 Z = true := hw _ (List.mem_of_getElem? (i := 57) rfl)
theorem w58 {a0 : Array Value} {Z : State} (hw : ∀ d ∈ tables_1, d.before a0 Z = true) : (Jvm.Cond.arrayClass Jvm.ClassFile.FieldType.long).before a0 Z = true := hw _ (List.mem_of_getElem? (i := 58) rfl)
theorem w59 {a0 : Array Value} {Z : State} (hw : ∀ d ∈ tables_1, d.before a0 Z = true) : (Jvm.Cond.methodLink "com/example/span60/span60/limit/SlidingWindowKeepsPinLaw" (25 : Nat) ({ cls := "com/example/span60/span60/limit/SlidingWindow$State", name := "<init>", desc := "([JJ)V" } : Jvm.MethodName)).before a0 Z = true := hw _ (List.mem_of_getElem? (i := 59) rfl)
theorem w60 {a0 : Array Value} {Z : State} (hw : ∀ d ∈ tables_1, d.before a0 Z = true) : (Jvm.Cond.instanceMethod ({ cls := "com/example/span60/span60/limit/SlidingWindow$State", name := "<init>", desc := "([JJ)V" } : Jvm.MethodName)).before a0 Z = true := hw _ (List.mem_of_getElem? (i := 60) rfl)
theorem w61 {a0 : Array Value} {Z : State} (hw : ∀ d ∈ tables_1, d.before a0 Z = true) : (Jvm.Cond.code ({ cls := "com/example/span60/span60/limit/SlidingWindow$State", name := "<init>", desc := "([JJ)V" } : Jvm.MethodName) prog_34_method_1_code (4 : Nat) (Option.none : Option Jvm.ClassFile.FieldType)).before a0 Z = true := hw _ (List.mem_of_getElem? (i := 61) rfl)
theorem w62 {a0 : Array Value} {Z : State} (hw : ∀ d ∈ tables_1, d.before a0 Z = true) : (Jvm.Cond.methodLink "com/example/span60/span60/limit/SlidingWindow$State" (1 : Nat) ({ cls := "com/example/span60/span60/limit/Algorithm$State", name := "<init>", desc := "()V" } : Jvm.MethodName)).before a0 Z = true := hw _ (List.mem_of_getElem? (i := 62) rfl)
theorem w63 {a0 : Array Value} {Z : State} (hw : ∀ d ∈ tables_1, d.before a0 Z = true) : (Jvm.Cond.instanceMethod ({ cls := "com/example/span60/span60/limit/Algorithm$State", name := "<init>", desc := "()V" } : Jvm.MethodName)).before a0 Z = true := hw _ (List.mem_of_getElem? (i := 63) rfl)
theorem w65 {a0 : Array Value} {Z : State} (hw : ∀ d ∈ tables_1, d.before a0 Z = true) : (Jvm.Cond.initialized "com/example/span60/span60/limit/Algorithm$State").before a0 Z = true := hw _ (List.mem_of_getElem? (i := 65) rfl)
theorem w66 {a0 : Array Value} {Z : State} (hw : ∀ d ∈ tables_1, d.before a0 Z = true) : (Jvm.Cond.code ({ cls := "com/example/span60/span60/limit/Algorithm$State", name := "<init>", desc := "()V" } : Jvm.MethodName) prog_7_method_1_code (1 : Nat) (Option.none : Option Jvm.ClassFile.FieldType)).before a0 Z = true := hw _ (List.mem_of_getElem? (i := 66) rfl)
theorem w67 {a0 : Array Value} {Z : State} (hw : ∀ d ∈ tables_1, d.before a0 Z = true) : (Jvm.Cond.methodLink "com/example/span60/span60/limit/Algorithm$State" (1 : Nat) ({ cls := "java/lang/Object", name := "<init>", desc := "()V" } : Jvm.MethodName)).before a0 Z = true := hw _ (List.mem_of_getElem? (i := 67) rfl)
theorem w68 {a0 : Array Value} {Z : State} (hw : ∀ d ∈ tables_1, d.before a0 Z = true) : (Jvm.Cond.fieldLink "com/example/span60/span60/limit/SlidingWindow$State" (7 : Nat) "com/example/span60/span60/limit/SlidingWindow$State" "counts" "[J").before a0 Z = true := hw _ (List.mem_of_getElem? (i := 68) rfl)
theorem w69 {a0 : Array Value} {Z : State} (hw : ∀ d ∈ tables_1, d.before a0 Z = true) : (Jvm.Cond.laysFinal "com/example/span60/span60/limit/SlidingWindow$State" "com/example/span60/span60/limit/SlidingWindow$State" "counts" "[J").before a0 Z = true := hw _ (List.mem_of_getElem? (i := 69) rfl)
theorem w70 {a0 : Array Value} {Z : State} (hw : ∀ d ∈ tables_1, d.before a0 Z = true) : (Jvm.Cond.fieldLink "com/example/span60/span60/limit/SlidingWindow$State" (13 : Nat) "com/example/span60/span60/limit/SlidingWindow$State" "at" "J").before a0 Z = true := hw _ (List.mem_of_getElem? (i := 70) rfl)
theorem w71 {a0 : Array Value} {Z : State} (hw : ∀ d ∈ tables_1, d.before a0 Z = true) : (Jvm.Cond.lays "com/example/span60/span60/limit/SlidingWindow$State" "com/example/span60/span60/limit/SlidingWindow$State" "at" "J").before a0 Z = true := hw _ (List.mem_of_getElem? (i := 71) rfl)
theorem w72 {a0 : Array Value} {Z : State} (hw : ∀ d ∈ tables_1, d.before a0 Z = true) : (Jvm.Cond.methodLink "com/example/span60/span60/limit/SlidingWindowKeepsPinLaw" (28 : Nat) ({ cls := "com/example/span60/span60/limit/SlidingWindow", name := "keeps", desc := "(Lcom/example/span60/span60/limit/Algorithm$State;)Z" } : Jvm.MethodName)).before a0 Z = true := hw _ (List.mem_of_getElem? (i := 72) rfl)
theorem w73 {a0 : Array Value} {Z : State} (hw : ∀ d ∈ tables_1, d.before a0 Z = true) : (Jvm.Cond.declares ({ cls := "com/example/span60/span60/limit/SlidingWindow", name := "keeps", desc := "(Lcom/example/span60/span60/limit/Algorithm$State;)Z" } : Jvm.MethodName)).before a0 Z = true := hw _ (List.mem_of_getElem? (i := 73) rfl)
theorem w74 {a0 : Array Value} {Z : State} (hw : ∀ d ∈ tables_1, d.before a0 Z = true) : (Jvm.Cond.instanceMethod ({ cls := "com/example/span60/span60/limit/SlidingWindow", name := "keeps", desc := "(Lcom/example/span60/span60/limit/Algorithm$State;)Z" } : Jvm.MethodName)).before a0 Z = true := hw _ (List.mem_of_getElem? (i := 74) rfl)
theorem w75 {a0 : Array Value} {Z : State} (hw : ∀ d ∈ tables_1, d.before a0 Z = true) : (Jvm.Cond.selects "com/example/span60/span60/limit/SlidingWindow" ({ cls := "com/example/span60/span60/limit/SlidingWindow", name := "keeps", desc := "(Lcom/example/span60/span60/limit/Algorithm$State;)Z" } : Jvm.MethodName) ({ cls := "com/example/span60/span60/limit/SlidingWindow", name := "keeps", desc := "(Lcom/example/span60/span60/limit/Algorithm$State;)Z" } : Jvm.MethodName)).before a0 Z = true := hw _ (List.mem_of_getElem? (i := 75) rfl)
theorem w76 {a0 : Array Value} {Z : State} (hw : ∀ d ∈ tables_1, d.before a0 Z = true) : (Jvm.Cond.code ({ cls := "com/example/span60/span60/limit/SlidingWindow", name := "keeps", desc := "(Lcom/example/span60/span60/limit/Algorithm$State;)Z" } : Jvm.MethodName) prog_33_method_7_code (2 : Nat) (Option.some Jvm.ClassFile.FieldType.boolean)).before a0 Z = true := hw _ (List.mem_of_getElem? (i := 76) rfl)
theorem w77 {a0 : Array Value} {Z : State} (hw : ∀ d ∈ tables_1, d.before a0 Z = true) : (Jvm.Cond.classLink "com/example/span60/span60/limit/SlidingWindow" (50 : Nat) "com/example/span60/span60/limit/SlidingWindow$State").before a0 Z = true := hw _ (List.mem_of_getElem? (i := 77) rfl)
theorem w79 {a0 : Array Value} {Z : State} (hw : ∀ d ∈ tables_1, d.before a0 Z = true) : (Jvm.Cond.fieldRef "com/example/span60/span60/limit/SlidingWindow" (55 : Nat) "com/example/span60/span60/limit/SlidingWindow$State" "counts" "[J").before a0 Z = true := hw _ (List.mem_of_getElem? (i := 79) rfl)
theorem w80 {a0 : Array Value} {Z : State} (hw : ∀ d ∈ tables_1, d.before a0 Z = true) : (Jvm.Cond.constant "com/example/span60/span60/limit/SlidingWindowKeepsPinLaw" (7 : Nat) (2147483647 : Int32)).before a0 Z = true := hw _ (List.mem_of_getElem? (i := 80) rfl)
theorem w81 {a0 : Array Value} {Z : State} (hw : ∀ d ∈ tables_1, d.before a0 Z = true) : (Jvm.Cond.methodLink "com/example/span60/span60/limit/SlidingWindowKeepsPinLaw" (10 : Nat) ({ cls := "com/example/span60/span60/limit/SlidingWindow", name := "split", desc := "(JJI)Lcom/example/span60/span60/limit/SlidingWindow;" } : Jvm.MethodName)).before a0 Z = true := hw _ (List.mem_of_getElem? (i := 81) rfl)
theorem w82 {a0 : Array Value} {Z : State} (hw : ∀ d ∈ tables_1, d.before a0 Z = true) : (Jvm.Cond.static ({ cls := "com/example/span60/span60/limit/SlidingWindow", name := "split", desc := "(JJI)Lcom/example/span60/span60/limit/SlidingWindow;" } : Jvm.MethodName)).before a0 Z = true := hw _ (List.mem_of_getElem? (i := 82) rfl)
theorem w83 {a0 : Array Value} {Z : State} (hw : ∀ d ∈ tables_1, d.before a0 Z = true) : (Jvm.Cond.code ({ cls := "com/example/span60/span60/limit/SlidingWindow", name := "split", desc := "(JJI)Lcom/example/span60/span60/limit/SlidingWindow;" } : Jvm.MethodName) prog_33_method_2_code (5 : Nat) (Option.some (Jvm.ClassFile.FieldType.object "com/example/span60/span60/limit/SlidingWindow"))).before a0 Z = true := hw _ (List.mem_of_getElem? (i := 83) rfl)
theorem w84 {a0 : Array Value} {Z : State} (hw : ∀ d ∈ tables_1, d.before a0 Z = true) : (Jvm.Cond.classLink "com/example/span60/span60/limit/SlidingWindow" (2 : Nat) "com/example/span60/span60/limit/SlidingWindow").before a0 Z = true := hw _ (List.mem_of_getElem? (i := 84) rfl)
theorem w85 {a0 : Array Value} {Z : State} (hw : ∀ d ∈ tables_1, d.before a0 Z = true) : (Jvm.Cond.methodLink "com/example/span60/span60/limit/SlidingWindowKeepsPinLaw" (19 : Nat) ({ cls := "com/example/span60/span60/limit/SlidingWindow", name := "newState", desc := "(J)Lcom/example/span60/span60/limit/SlidingWindow$State;" } : Jvm.MethodName)).before a0 Z = true := hw _ (List.mem_of_getElem? (i := 85) rfl)
theorem w86 {a0 : Array Value} {Z : State} (hw : ∀ d ∈ tables_1, d.before a0 Z = true) : (Jvm.Cond.declares ({ cls := "com/example/span60/span60/limit/SlidingWindow", name := "newState", desc := "(J)Lcom/example/span60/span60/limit/SlidingWindow$State;" } : Jvm.MethodName)).before a0 Z = true := hw _ (List.mem_of_getElem? (i := 86) rfl)
theorem w87 {a0 : Array Value} {Z : State} (hw : ∀ d ∈ tables_1, d.before a0 Z = true) : (Jvm.Cond.instanceMethod ({ cls := "com/example/span60/span60/limit/SlidingWindow", name := "newState", desc := "(J)Lcom/example/span60/span60/limit/SlidingWindow$State;" } : Jvm.MethodName)).before a0 Z = true := hw _ (List.mem_of_getElem? (i := 87) rfl)
theorem w88 {a0 : Array Value} {Z : State} (hw : ∀ d ∈ tables_1, d.before a0 Z = true) : (Jvm.Cond.selects "com/example/span60/span60/limit/SlidingWindow" ({ cls := "com/example/span60/span60/limit/SlidingWindow", name := "newState", desc := "(J)Lcom/example/span60/span60/limit/SlidingWindow$State;" } : Jvm.MethodName) ({ cls := "com/example/span60/span60/limit/SlidingWindow", name := "newState", desc := "(J)Lcom/example/span60/span60/limit/SlidingWindow$State;" } : Jvm.MethodName)).before a0 Z = true := hw _ (List.mem_of_getElem? (i := 88) rfl)
theorem w89 {a0 : Array Value} {Z : State} (hw : ∀ d ∈ tables_1, d.before a0 Z = true) : (Jvm.Cond.code ({ cls := "com/example/span60/span60/limit/SlidingWindow", name := "newState", desc := "(J)Lcom/example/span60/span60/limit/SlidingWindow$State;" } : Jvm.MethodName) prog_33_method_6_code (3 : Nat) (Option.some (Jvm.ClassFile.FieldType.object "com/example/span60/span60/limit/SlidingWindow$State"))).before a0 Z = true := hw _ (List.mem_of_getElem? (i := 89) rfl)
theorem w90 {a0 : Array Value} {Z : State} (hw : ∀ d ∈ tables_1, d.before a0 Z = true) : (Jvm.Cond.methodLink "com/example/span60/span60/limit/SlidingWindow" (52 : Nat) ({ cls := "com/example/span60/span60/limit/SlidingWindow$State", name := "<init>", desc := "([JJ)V" } : Jvm.MethodName)).before a0 Z = true := hw _ (List.mem_of_getElem? (i := 90) rfl)
theorem pd___V : parseMethodDescriptor "()V" = some ⟨[], none⟩ := by decide +kernel
theorem pd__J_J : parseMethodDescriptor "(J)J" = some ⟨[.long], (some .long)⟩ := by decide +kernel
theorem pd__JJ_V : parseMethodDescriptor "(JJ)V" = some ⟨[.long, .long], none⟩ := by decide +kernel
theorem pd___J : parseMethodDescriptor "()J" = some ⟨[], (some .long)⟩ := by decide +kernel
theorem pd__JJI_V : parseMethodDescriptor "(JJI)V" = some ⟨[.long, .long, .int], none⟩ := by decide +kernel
theorem pd___JJ_V : parseMethodDescriptor "([JJ)V" = some ⟨[(.array .long), .long], none⟩ := by decide +kernel
theorem pd__Lcom_example_span60_span60_limit_Algorithm_State__Z : parseMethodDescriptor "(Lcom/example/span60/span60/limit/Algorithm$State;)Z" = some ⟨[(.object "com/example/span60/span60/limit/Algorithm$State")], (some .boolean)⟩ := by decide +kernel
theorem pd__J_Lcom_example_span60_span60_limit_SlidingWindow_State_ : parseMethodDescriptor "(J)Lcom/example/span60/span60/limit/SlidingWindow$State;" = some ⟨[.long], (some (.object "com/example/span60/span60/limit/SlidingWindow$State"))⟩ := by decide +kernel
theorem pd__JJI_Lcom_example_span60_span60_limit_SlidingWindow_ : parseMethodDescriptor "(JJI)Lcom/example/span60/span60/limit/SlidingWindow;" = some ⟨[.long, .long, .int], (some (.object "com/example/span60/span60/limit/SlidingWindow"))⟩ := by decide +kernel
theorem pn_com_example_span60_span60_limit_Algorithm : plainName "com/example/span60/span60/limit/Algorithm" = true := by first | (simp [plainName, overriddenIn]; done) | decide +kernel
theorem pn_com_example_span60_span60_limit_Algorithm_State : plainName "com/example/span60/span60/limit/Algorithm$State" = true := by first | (simp [plainName, overriddenIn]; done) | decide +kernel
theorem pn_com_example_span60_span60_limit_WindowLimit : plainName "com/example/span60/span60/limit/WindowLimit" = true := by first | (simp [plainName, overriddenIn]; done) | decide +kernel
theorem pn_com_example_span60_span60_limit_SlidingWindow : plainName "com/example/span60/span60/limit/SlidingWindow" = true := by first | (simp [plainName, overriddenIn]; done) | decide +kernel
theorem pn_com_example_span60_span60_limit_SlidingWindow_State : plainName "com/example/span60/span60/limit/SlidingWindow$State" = true := by first | (simp [plainName, overriddenIn]; done) | decide +kernel
theorem pn_com_example_span60_span60_limit_SlidingWindowKeepsPinLaw : plainName "com/example/span60/span60/limit/SlidingWindowKeepsPinLaw" = true := by first | (simp [plainName, overriddenIn]; done) | decide +kernel

theorem own_i64lt {x y : Int64} : x < y ↔ x.toInt < y.toInt := Int64.lt_iff_toInt_lt
theorem own_nl {x y : Int64} (h : y.toInt ≤ x.toInt) : ¬ lcmpW x y < (0 : Int32) := fun q => by
  have := own_i64lt.mp ((lw_lt x y).mp q); omega
theorem own_ng {x y : Int64} (h : x.toInt ≤ y.toInt) : ¬ (0 : Int32) < lcmpW x y := fun q => by
  have := own_i64lt.mp ((lw_gt x y).mp q); omega
theorem own_sub (p3 : Int32) : 2 ≤ ((2 : Int32) + (p3 &&& (2147483647 : Int32)) % (99 : Int32)).toInt ∧ ((2 : Int32) + (p3 &&& (2147483647 : Int32)) % (99 : Int32)).toInt ≤ 100 := by
  have h1 := c_mask p3 (2147483647 : Int32) 31 (by decide) (by decide)
  have h2 := (c_irem (p3 &&& (2147483647 : Int32)) (99 : Int32) 99 (by decide)).1 (by rw [h1]; omega)
  have h3 := c_iadd (2 : Int32) ((p3 &&& (2147483647 : Int32)) % (99 : Int32))
  have h4 : (2 : Int32).toInt = 2 := by decide
  have h5 := rng32 ((2 : Int32) + (p3 &&& (2147483647 : Int32)) % (99 : Int32))
  omega
theorem own_lim (q : Int64) : 1 ≤ ((1 : Int64) + (q &&& (16777215 : Int64))).toInt ∧ ((1 : Int64) + (q &&& (16777215 : Int64))).toInt ≤ 16777216 := by
  have h1 := c_maskL q (16777215 : Int64) 24 (by decide) (by decide)
  have h3 := c_ladd (1 : Int64) (q &&& (16777215 : Int64))
  have h4 : (1 : Int64).toInt = 1 := by decide
  have h5 := rng64 ((1 : Int64) + (q &&& (16777215 : Int64)))
  omega
theorem own_win (p2 k : Int32) (hk1 : 1 ≤ k.toInt) (hk2 : k.toInt ≤ 100) : 1 ≤ ((((p2 &&& (1023 : Int32)) + (1 : Int32)).toInt64) * (k.toInt64)).toInt ∧ ((((p2 &&& (1023 : Int32)) + (1 : Int32)).toInt64) * (k.toInt64)).toInt ≤ 102400 ∧ ((((p2 &&& (1023 : Int32)) + (1 : Int32)).toInt64) * (k.toInt64)).toInt % k.toInt = 0 := by
  have h1 := c_mask p2 (1023 : Int32) 10 (by decide) (by decide)
  have h3 := c_iadd (p2 &&& (1023 : Int32)) (1 : Int32)
  have h4 : (1 : Int32).toInt = 1 := by decide
  have h5 := rng32 ((p2 &&& (1023 : Int32)) + (1 : Int32))
  obtain ⟨u, hu⟩ : ∃ u, u = ((p2 &&& (1023 : Int32)) + (1 : Int32)).toInt := ⟨_, rfl⟩
  have hu1 : 1 ≤ u ∧ u ≤ 1024 := by omega
  have h6 := c_lmul (((p2 &&& (1023 : Int32)) + (1 : Int32)).toInt64) (k.toInt64)
  rw [c_i2l, c_i2l, ← hu] at h6
  have h7 := rng64 ((((p2 &&& (1023 : Int32)) + (1 : Int32)).toInt64) * (k.toInt64))
  have m1 : 1 * 1 ≤ u * k.toInt := Int.mul_le_mul hu1.1 hk1 (by decide) (by omega)
  have m2 : u * k.toInt ≤ 1024 * 100 := Int.mul_le_mul hu1.2 hk2 (by omega) (by decide)
  have e : ((((p2 &&& (1023 : Int32)) + (1 : Int32)).toInt64) * (k.toInt64)).toInt = u * k.toInt := by omega
  rw [e]
  exact ⟨by omega, by omega, Int.mul_emod_left u k.toInt⟩
theorem own_ne64 {x : Int64} (h : 1 ≤ x.toInt) : x ≠ 0 := fun q => by subst q; exact absurd h (by decide)
theorem own_ne64' {x : Int64} (h : 1 ≤ x.toInt) : x ≠ -1 := fun q => by subst q; exact absurd h (by decide)
theorem own_most {q2 q3 : Int64} (h2 : q2.toInt ≤ 16777216) (h3 : 1 ≤ q3.toInt) (h4 : q3.toInt ≤ 102400) : q2.toInt ≤ ((9007199254740 : Int64) / q3).toInt := by
  have h1 := (c_ldiv (9007199254740 : Int64) q3 q3.toInt rfl (own_ne64' h3)).1 (by decide)
  have h5 : (9007199254740 : Int64).toInt = 9007199254740 := by decide
  rw [h1, h5]
  refine Int.le_trans h2 (Int.le_ediv_of_mul_le (by omega) ?_)
  omega
theorem own_millis {q3 : Int64} (h3 : 1 ≤ q3.toInt) (h4 : q3.toInt ≤ 102400) : (q3 * (1000 : Int64)).toInt = q3.toInt * 1000 := by
  have h6 := c_lmul q3 (1000 : Int64)
  have h5 : (1000 : Int64).toInt = 1000 := by decide
  rw [h5] at h6
  have h7 := rng64 (q3 * (1000 : Int64))
  omega
theorem own_rem {q3 : Int64} {k : Int32} (h3 : 1 ≤ q3.toInt) (h4 : q3.toInt ≤ 102400) (hk : 1 ≤ k.toInt) (hd : q3.toInt % k.toInt = 0) : lcmpW ((q3 * (1000 : Int64)) - ((q3 * (1000 : Int64)) / (k.toInt64)) * (k.toInt64)) (0 : Int64) = (0 : Int32) := by
  refine (lw_eq _ _).mpr (Int64.toInt_inj.mp ?_)
  have h1 := (c_lrem (q3 * (1000 : Int64)) (k.toInt64) k.toInt (c_i2l k)).1 (by rw [own_millis h3 h4]; omega)
  rw [h1, own_millis h3 h4, Int.mul_emod, hd, Int.zero_mul, Int.zero_emod]
  decide
theorem own_kne {k : Int32} (hk : 1 ≤ k.toInt) : (k.toInt64) ≠ 0 := own_ne64 (by rw [c_i2l]; exact hk)
theorem own_narb1 : nar .boolean (1 : Int32) = 1 := rfl
theorem own_narb0 : nar .boolean (0 : Int32) = 0 := rfl
theorem own_and127 (x : Int32) : 0 ≤ (x &&& (127 : Int32)).toInt ∧ (x &&& (127 : Int32)).toInt ≤ 127 := c_and x 127 (by decide)
theorem own_len3 {k x : Int32} (h1 : 1 ≤ k.toInt) (h2 : k.toInt ≤ 100) : 0 ≤ ((k - (1 : Int32)) + (x &&& (3 : Int32))).toInt ∧ ((k - (1 : Int32)) + (x &&& (3 : Int32))).toInt ≤ 127 := by
  have e1 := c_and x 3 (by decide)
  have e3 : (3 : Int32).toInt = 3 := by decide
  have e4 : (1 : Int32).toInt = 1 := by decide
  have e2 := c_isub k 1
  have e5 := c_iadd (k - (1 : Int32)) (x &&& (3 : Int32))
  have r1 := rng32 (k - (1 : Int32))
  have r2 := rng32 ((k - (1 : Int32)) + (x &&& (3 : Int32)))
  omega
theorem own_up1 {k : Int32} (h1 : 1 ≤ k.toInt) (h2 : k.toInt ≤ 100) : 0 ≤ (k + (1 : Int32)).toInt ∧ (k + (1 : Int32)).toInt ≤ 127 := by
  have e4 : (1 : Int32).toInt = 1 := by decide
  have e2 := c_iadd k 1
  have r1 := rng32 (k + (1 : Int32))
  omega
theorem own_nneg {n : Int32} (h : 0 ≤ n.toInt) : ¬ n < (0 : Int32) := fun q => by
  have := Int32.lt_iff_toInt_lt.mp q
  have e : (0 : Int32).toInt = 0 := by decide
  omega
theorem own_cap {n : Int32} {k : Nat} (h : n.toInt ≤ k) : n.toNatClampNeg ≤ k := by simp only [Int32.toNatClampNeg]; omega

theorem own_nlt {x y : Int32} (h : y.toInt ≤ x.toInt) : ¬ x < y := fun q => by
  have := Int32.lt_iff_toInt_lt.mp q; omega

theorem dalg_0 : decode prog_6_method_1_code 0 = .ok (.aload_n 0, 1) := by decide +kernel
theorem dalg_1 : decode prog_6_method_1_code 1 = .ok (.invokespecial 1, 3) := by decide +kernel
theorem dalg_4 : decode prog_6_method_1_code 4 = .ok (.return_, 1) := by decide +kernel
set_option maxRecDepth 65536 in
set_option maxHeartbeats 40000000 in
theorem rm_alg (l : Launch) (Z : State) (a0 : Array Value) (hw : ∀ d ∈ tables_1, d.before a0 Z = true) (a1 : Addr) (h0 : Heap) (O0 : Old Z Z.heap.size h0)  :
    own_Con l Z (⟨"com/example/span60/span60/limit/Algorithm", "<init>", "()V"⟩ : MethodName) prog_6_method_1_code 1 none ({ frames := 1, cells := 0, slots := 0, locals := 12 } : Room) #[(.ref a1)] h0 (fun v h L => v = none ∧ Fr Z.heap.size L ∧ h = h0) := by
  refine own_con (ls := #[.val (.ref a1)]) (pn_com_example_span60_span60_limit_Algorithm) (fun m => by first | (simp [entryFrame, mkF, argsToLocals, Value.category]; done) | rfl) ?_
  intro p e s m below meth c s₁ hx hby hml0 hown0 hnm0 hret0 hlk hZ X0 e0
  have hml : c.maxLocals = 1 := hml0
  have hown : s.vm.findClass "com/example/span60/span60/limit/Algorithm" = some m.cls := hown0
  have hnm : meth.name = "<init>" := hnm0
  have hret : meth.sig.returnType = none := hret0
  have F1 := Fr.nil Z.heap.size
  have F2 := Keep.refl h0 []
  refine own_step (T' := s₁) (g' := (mkF m 1 #[.val (.ref a1)] [(.ref a1)])) (fun _ kk => XS.aloadN X0.here hx rfl (hb hby dalg_0) rfl rfl kk) ?_
  obtain ⟨T3, X3, e3, st3⟩ := initO X0 hx hZ hown (w20 hw) (w21 hw) (w22 hw) e0 (g := (mkF m 1 #[.val (.ref a1)] [(.ref a1)])) rfl (by rw [hml]; rfl) rfl (hb hby dalg_1) (by decide) (W := 0) (by show 2 * 0 + _ ≤ _; exact Nat.le_of_eq rfl) (by decide)
  refine own_step (T' := T3) (g' := (mkF m 4 #[.val (.ref a1)] [])) (fun _ kk => st3 _ kk) ?_
  exact own_retV X3 hx hlk hret (hb hby dalg_4) e3 ⟨rfl, F1, rfl⟩ (by decide) (by decide)
theorem dasb_0 : decode prog_7_method_1_code 0 = .ok (.aload_n 0, 1) := by decide +kernel
theorem dasb_1 : decode prog_7_method_1_code 1 = .ok (.invokespecial 1, 3) := by decide +kernel
theorem dasb_4 : decode prog_7_method_1_code 4 = .ok (.return_, 1) := by decide +kernel
set_option maxRecDepth 65536 in
set_option maxHeartbeats 40000000 in
theorem rm_asb (l : Launch) (Z : State) (a0 : Array Value) (hw : ∀ d ∈ tables_1, d.before a0 Z = true) (a1 : Addr) (h0 : Heap) (O0 : Old Z Z.heap.size h0)  :
    own_Con l Z (⟨"com/example/span60/span60/limit/Algorithm$State", "<init>", "()V"⟩ : MethodName) prog_7_method_1_code 1 none ({ frames := 1, cells := 0, slots := 0, locals := 12 } : Room) #[(.ref a1)] h0 (fun v h L => v = none ∧ Fr Z.heap.size L ∧ h = h0) := by
  refine own_con (ls := #[.val (.ref a1)]) (pn_com_example_span60_span60_limit_Algorithm_State) (fun m => by first | (simp [entryFrame, mkF, argsToLocals, Value.category]; done) | rfl) ?_
  intro p e s m below meth c s₁ hx hby hml0 hown0 hnm0 hret0 hlk hZ X0 e0
  have hml : c.maxLocals = 1 := hml0
  have hown : s.vm.findClass "com/example/span60/span60/limit/Algorithm$State" = some m.cls := hown0
  have hnm : meth.name = "<init>" := hnm0
  have hret : meth.sig.returnType = none := hret0
  have F4 := Fr.nil Z.heap.size
  have F5 := Keep.refl h0 []
  refine own_step (T' := s₁) (g' := (mkF m 1 #[.val (.ref a1)] [(.ref a1)])) (fun _ kk => XS.aloadN X0.here hx rfl (hb hby dasb_0) rfl rfl kk) ?_
  obtain ⟨T6, X6, e6, st6⟩ := initO X0 hx hZ hown (w67 hw) (w21 hw) (w22 hw) e0 (g := (mkF m 1 #[.val (.ref a1)] [(.ref a1)])) rfl (by rw [hml]; rfl) rfl (hb hby dasb_1) (by decide) (W := 0) (by show 2 * 0 + _ ≤ _; exact Nat.le_of_eq rfl) (by decide)
  refine own_step (T' := T6) (g' := (mkF m 4 #[.val (.ref a1)] [])) (fun _ kk => st6 _ kk) ?_
  exact own_retV X6 hx hlk hret (hb hby dasb_4) e6 ⟨rfl, F4, rfl⟩ (by decide) (by decide)
theorem dwl_0 : decode prog_44_method_1_code 0 = .ok (.aload_n 0, 1) := by decide +kernel
theorem dwl_1 : decode prog_44_method_1_code 1 = .ok (.invokespecial 3, 3) := by decide +kernel
theorem dwl_4 : decode prog_44_method_1_code 4 = .ok (.lload_n 1, 1) := by decide +kernel
theorem dwl_5 : decode prog_44_method_1_code 5 = .ok (.lconst 1, 1) := by decide +kernel
theorem dwl_6 : decode prog_44_method_1_code 6 = .ok (.lcmp, 1) := by decide +kernel
theorem dwl_7 : decode prog_44_method_1_code 7 = .ok (.ifCond .lt 9, 3) := by decide +kernel
theorem dwl_10 : decode prog_44_method_1_code 10 = .ok (.lload_n 3, 1) := by decide +kernel
theorem dwl_11 : decode prog_44_method_1_code 11 = .ok (.lconst 1, 1) := by decide +kernel
theorem dwl_12 : decode prog_44_method_1_code 12 = .ok (.lcmp, 1) := by decide +kernel
theorem dwl_13 : decode prog_44_method_1_code 13 = .ok (.ifCond .ge 13, 3) := by decide +kernel
theorem dwl_16 : decode prog_44_method_1_code 16 = .ok (.new 7, 3) := by decide +kernel
theorem dwl_19 : decode prog_44_method_1_code 19 = .ok (.dup, 1) := by decide +kernel
theorem dwl_20 : decode prog_44_method_1_code 20 = .ok (.ldc 9, 2) := by decide +kernel
theorem dwl_22 : decode prog_44_method_1_code 22 = .ok (.invokespecial 11, 3) := by decide +kernel
theorem dwl_25 : decode prog_44_method_1_code 25 = .ok (.athrow, 1) := by decide +kernel
theorem dwl_26 : decode prog_44_method_1_code 26 = .ok (.lload_n 1, 1) := by decide +kernel
theorem dwl_27 : decode prog_44_method_1_code 27 = .ok (.ldc2_w 16, 3) := by decide +kernel
theorem dwl_30 : decode prog_44_method_1_code 30 = .ok (.lcmp, 1) := by decide +kernel
theorem dwl_31 : decode prog_44_method_1_code 31 = .ok (.ifCond .gt 11, 3) := by decide +kernel
theorem dwl_34 : decode prog_44_method_1_code 34 = .ok (.lload_n 3, 1) := by decide +kernel
theorem dwl_35 : decode prog_44_method_1_code 35 = .ok (.getstatic 18, 3) := by decide +kernel
theorem dwl_38 : decode prog_44_method_1_code 38 = .ok (.lcmp, 1) := by decide +kernel
theorem dwl_39 : decode prog_44_method_1_code 39 = .ok (.ifCond .le 19, 3) := by decide +kernel
theorem dwl_42 : decode prog_44_method_1_code 42 = .ok (.new 7, 3) := by decide +kernel
theorem dwl_45 : decode prog_44_method_1_code 45 = .ok (.dup, 1) := by decide +kernel
theorem dwl_46 : decode prog_44_method_1_code 46 = .ok (.getstatic 18, 3) := by decide +kernel
theorem dwl_49 : decode prog_44_method_1_code 49 = .ok (.invokedynamic 22, 5) := by decide +kernel
theorem dwl_54 : decode prog_44_method_1_code 54 = .ok (.invokespecial 11, 3) := by decide +kernel
theorem dwl_57 : decode prog_44_method_1_code 57 = .ok (.athrow, 1) := by decide +kernel
theorem dwl_58 : decode prog_44_method_1_code 58 = .ok (.aload_n 0, 1) := by decide +kernel
theorem dwl_59 : decode prog_44_method_1_code 59 = .ok (.lload_n 1, 1) := by decide +kernel
theorem dwl_60 : decode prog_44_method_1_code 60 = .ok (.putfield 26, 3) := by decide +kernel
theorem dwl_63 : decode prog_44_method_1_code 63 = .ok (.aload_n 0, 1) := by decide +kernel
theorem dwl_64 : decode prog_44_method_1_code 64 = .ok (.lload_n 3, 1) := by decide +kernel
theorem dwl_65 : decode prog_44_method_1_code 65 = .ok (.putfield 29, 3) := by decide +kernel
theorem dwl_68 : decode prog_44_method_1_code 68 = .ok (.aload_n 0, 1) := by decide +kernel
theorem dwl_69 : decode prog_44_method_1_code 69 = .ok (.lload_n 3, 1) := by decide +kernel
theorem dwl_70 : decode prog_44_method_1_code 70 = .ok (.ldc2_w 32, 3) := by decide +kernel
theorem dwl_73 : decode prog_44_method_1_code 73 = .ok (.lmul, 1) := by decide +kernel
theorem dwl_74 : decode prog_44_method_1_code 74 = .ok (.putfield 34, 3) := by decide +kernel
theorem dwl_77 : decode prog_44_method_1_code 77 = .ok (.return_, 1) := by decide +kernel
set_option maxRecDepth 65536 in
set_option maxHeartbeats 40000000 in
theorem rm_wl (l : Launch) (Z : State) (a0 : Array Value) (hw : ∀ d ∈ tables_1, d.before a0 Z = true) (a1 : Addr) (q2 q3 : Int64) (h0 : Heap) (O0 : Old Z Z.heap.size h0) (O1 : own_Obj Z h0 a1 "com/example/span60/span60/limit/SlidingWindow") (g1 : Z.heap.size ≤ a1) (S1 : Sta Z Z.heap "com/example/span60/span60/limit/WindowLimit" "MAX_WINDOW_SECONDS" "J" (.long (9007199254740 : Int64))) (l1 : 1 ≤ q2.toInt) (l2 : q2.toInt ≤ 16777216) (k1 : 1 ≤ q3.toInt) (k2 : q3.toInt ≤ 102400) :
    own_Con l Z (⟨"com/example/span60/span60/limit/WindowLimit", "<init>", "(JJ)V"⟩ : MethodName) prog_44_method_1_code 5 none ({ frames := 2, cells := 0, slots := 0, locals := 24 } : Room) #[(.ref a1), (.long q2), (.long q3)] h0 (fun v h L => v = none ∧ Fr Z.heap.size L ∧ Keep h0 h [a1] ∧ own_Obj Z h a1 "com/example/span60/span60/limit/SlidingWindow" ∧ Fld Z h a1 "com/example/span60/span60/limit/WindowLimit" "windowMillis" "J" (.long (q3 * (1000 : Int64)))) := by
  refine own_con (ls := #[.val (.ref a1), .val (.long q2), .second, .val (.long q3), .second]) (pn_com_example_span60_span60_limit_WindowLimit) (fun m => by first | (simp [entryFrame, mkF, argsToLocals, Value.category]; done) | rfl) ?_
  intro p e s m below meth c s₁ hx hby hml0 hown0 hnm0 hret0 hlk hZ X0 e0
  have hml : c.maxLocals = 5 := hml0
  have hown : s.vm.findClass "com/example/span60/span60/limit/WindowLimit" = some m.cls := hown0
  have hnm : meth.name = "<init>" := hnm0
  have hret : meth.sig.returnType = none := hret0
  have F7 := Fr.nil Z.heap.size
  have F8 := Keep.refl h0 []
  have F9 := Keep.refl h0 [a1]
  refine own_step (T' := s₁) (g' := (mkF m 1 #[.val (.ref a1), .val (.long q2), .second, .val (.long q3), .second] [(.ref a1)])) (fun _ kk => XS.aloadN X0.here hx rfl (hb hby dwl_0) rfl rfl kk) ?_
  obtain ⟨T11, L11, _, h11, X11, e11, ⟨rfl, Nq10, eh10⟩, st11⟩ := own_callC X0 hx hZ hown rfl (w15 hw) (w16 hw) (w19 hw) (w18 hw) (by decide) (a := a1) (g := (mkF m 1 #[.val (.ref a1), .val (.long q2), .second, .val (.long q3), .second] [(.ref a1)])) rfl (by rw [hml]; rfl) (argsL := []) (rest := []) (rm_alg l Z a0 hw a1 _ O0) e0 pd___V rfl rfl (W := 0) (by show 2 * 0 + _ ≤ _; exact Nat.le_of_eq rfl) (hb hby dwl_1) (by decide) (by decide) (by decide) (by decide)
  have F12 := Fr.app F7 Nq10
  have F13 := e11.trans eh10
  refine own_step (T' := T11) (g' := (mkF m 4 #[.val (.ref a1), .val (.long q2), .second, .val (.long q3), .second] [])) (fun _ kk => st11 _ kk) ?_
  refine own_step (T' := T11) (g' := (mkF m 5 #[.val (.ref a1), .val (.long q2), .second, .val (.long q3), .second] [(.long q2)])) (fun _ kk => XS.lloadN X11.here hx rfl (hb hby dwl_4) rfl kk) ?_
  refine own_step (T' := T11) (g' := (mkF m 6 #[.val (.ref a1), .val (.long q2), .second, .val (.long q3), .second] [(.long (1 : Int64)), (.long q2)])) (fun _ kk => XS.lconst X11.here hx rfl (hb hby dwl_5) kk) ?_
  refine own_step (T' := T11) (g' := (mkF m 7 #[.val (.ref a1), .val (.long q2), .second, .val (.long q3), .second] [(.int (lcmpW q2 (1 : Int64)))])) (fun _ kk => XS.lcmp X11.here hx rfl (hb hby dwl_6) rfl kk) ?_
  refine own_step (T' := T11) (g' := (mkF m 10 #[.val (.ref a1), .val (.long q2), .second, .val (.long q3), .second] [])) (fun _ kk => XS.ifNo X11.here hx rfl (hb hby dwl_7) rfl ((if0 _ _).trans (flt (own_nl (by show (1 : Int64).toInt ≤ _; exact l1))).1) kk) ?_
  refine own_step (T' := T11) (g' := (mkF m 11 #[.val (.ref a1), .val (.long q2), .second, .val (.long q3), .second] [(.long q3)])) (fun _ kk => XS.lloadN X11.here hx rfl (hb hby dwl_10) rfl kk) ?_
  refine own_step (T' := T11) (g' := (mkF m 12 #[.val (.ref a1), .val (.long q2), .second, .val (.long q3), .second] [(.long (1 : Int64)), (.long q3)])) (fun _ kk => XS.lconst X11.here hx rfl (hb hby dwl_11) kk) ?_
  refine own_step (T' := T11) (g' := (mkF m 13 #[.val (.ref a1), .val (.long q2), .second, .val (.long q3), .second] [(.int (lcmpW q3 (1 : Int64)))])) (fun _ kk => XS.lcmp X11.here hx rfl (hb hby dwl_12) rfl kk) ?_
  refine own_step (T' := T11) (g' := (mkF m 26 #[.val (.ref a1), .val (.long q2), .second, .val (.long q3), .second] [])) (fun _ kk => XS.ifYes X11.here hx rfl (pc0 := 13) (pc' := 26) rfl (hb hby dwl_13) rfl ((if0 _ _).trans (flt (own_nl (by show (1 : Int64).toInt ≤ _; exact k1))).2.1) (by decide) (by decide) kk) ?_
  refine own_step (T' := T11) (g' := (mkF m 27 #[.val (.ref a1), .val (.long q2), .second, .val (.long q3), .second] [(.long q2)])) (fun _ kk => XS.lloadN X11.here hx rfl (hb hby dwl_26) rfl kk) ?_
  refine own_step (T' := T11) (g' := (mkF m 30 #[.val (.ref a1), .val (.long q2), .second, .val (.long q3), .second] [(.long (9007199254740991 : Int64)), (.long q2)])) (fun _ kk => X11.ldc2Long hx hown (mvT hZ (w23 hw)) (g := (mkF m 27 #[.val (.ref a1), .val (.long q2), .second, .val (.long q3), .second] [(.long q2)])) rfl (hb hby dwl_27) _ kk) ?_
  refine own_step (T' := T11) (g' := (mkF m 31 #[.val (.ref a1), .val (.long q2), .second, .val (.long q3), .second] [(.int (lcmpW q2 (9007199254740991 : Int64)))])) (fun _ kk => XS.lcmp X11.here hx rfl (hb hby dwl_30) rfl kk) ?_
  refine own_step (T' := T11) (g' := (mkF m 34 #[.val (.ref a1), .val (.long q2), .second, .val (.long q3), .second] [])) (fun _ kk => XS.ifNo X11.here hx rfl (hb hby dwl_31) rfl ((if0 _ _).trans (flt (own_ng (by show _ ≤ (9007199254740991 : Int64).toInt; rw [show (9007199254740991 : Int64).toInt = 9007199254740991 by decide]; omega))).2.2.1) kk) ?_
  refine own_step (T' := T11) (g' := (mkF m 35 #[.val (.ref a1), .val (.long q2), .second, .val (.long q3), .second] [(.long q3)])) (fun _ kk => XS.lloadN X11.here hx rfl (hb hby dwl_34) rfl kk) ?_
  obtain ⟨T14, X14, e14, st14⟩ := getS (host := "") X11 hx hZ hown (w24 hw) Via.refl F13 (S1.ext O0.2) (g := (mkF m 35 #[.val (.ref a1), .val (.long q2), .second, .val (.long q3), .second] [(.long q3)])) rfl (hb hby dwl_35)
  refine own_step (T' := T14) (g' := (mkF m 38 #[.val (.ref a1), .val (.long q2), .second, .val (.long q3), .second] [(.long (9007199254740 : Int64)), (.long q3)])) (fun _ kk => st14 _ kk) ?_
  refine own_step (T' := T14) (g' := (mkF m 39 #[.val (.ref a1), .val (.long q2), .second, .val (.long q3), .second] [(.int (lcmpW q3 (9007199254740 : Int64)))])) (fun _ kk => XS.lcmp X14.here hx rfl (hb hby dwl_38) rfl kk) ?_
  refine own_step (T' := T14) (g' := (mkF m 58 #[.val (.ref a1), .val (.long q2), .second, .val (.long q3), .second] [])) (fun _ kk => XS.ifYes X14.here hx rfl (pc0 := 39) (pc' := 58) rfl (hb hby dwl_39) rfl ((if0 _ _).trans (flt (own_ng (by show _ ≤ (9007199254740 : Int64).toInt; rw [show (9007199254740 : Int64).toInt = 9007199254740 by decide]; omega))).2.2.2) (by decide) (by decide) kk) ?_
  refine own_step (T' := T14) (g' := (mkF m 59 #[.val (.ref a1), .val (.long q2), .second, .val (.long q3), .second] [(.ref a1)])) (fun _ kk => XS.aloadN X14.here hx rfl (hb hby dwl_58) rfl rfl kk) ?_
  refine own_step (T' := T14) (g' := (mkF m 60 #[.val (.ref a1), .val (.long q2), .second, .val (.long q3), .second] [(.long q2), (.ref a1)])) (fun _ kk => XS.lloadN X14.here hx rfl (hb hby dwl_59) rfl kk) ?_
  obtain ⟨u15, Fu15⟩ := O1.fld (w2 hw) (Or.inr (w27 hw) : Laid Z a0 "com/example/span60/span60/limit/SlidingWindow" "com/example/span60/span60/limit/WindowLimit" "limit" "J")
  obtain ⟨T15, h15, X15, e15, W15, st15⟩ := putF X14 hx hZ hown (host := "") (Or.inl (w26 hw)) Via.refl e14 Fu15 O1.1 (Or.inr ⟨(w27 hw), rfl, hnm⟩) (w2 hw) (ty := .long) (by decide) rfl rfl (g := (mkF m 60 #[.val (.ref a1), .val (.long q2), .second, .val (.long q3), .second] [(.long q2), (.ref a1)])) rfl rfl (hb hby dwl_60)
  have F16 := Fr.snoc X15 F12 g1
  have F17 := O1.wr W15
  have F18 := O0.wr W15 g1
  have F19 := F9.wr W15 (Or.inl (List.mem_of_getElem? (i := 0) rfl))
  have F20 : Fld Z h15 a1 "com/example/span60/span60/limit/WindowLimit" "limit" "J" (.long q2) := Fu15.same W15
  refine own_step (T' := T15) (g' := (mkF m 63 #[.val (.ref a1), .val (.long q2), .second, .val (.long q3), .second] [])) (fun _ kk => st15 _ kk) ?_
  refine own_step (T' := T15) (g' := (mkF m 64 #[.val (.ref a1), .val (.long q2), .second, .val (.long q3), .second] [(.ref a1)])) (fun _ kk => XS.aloadN X15.here hx rfl (hb hby dwl_63) rfl rfl kk) ?_
  refine own_step (T' := T15) (g' := (mkF m 65 #[.val (.ref a1), .val (.long q2), .second, .val (.long q3), .second] [(.long q3), (.ref a1)])) (fun _ kk => XS.lloadN X15.here hx rfl (hb hby dwl_64) rfl kk) ?_
  obtain ⟨u21, Fu21⟩ := F17.fld (w2 hw) (Or.inr (w29 hw) : Laid Z a0 "com/example/span60/span60/limit/SlidingWindow" "com/example/span60/span60/limit/WindowLimit" "windowSeconds" "J")
  obtain ⟨T21, h21, X21, e21, W21, st21⟩ := putF X15 hx hZ hown (host := "") (Or.inl (w28 hw)) Via.refl e15 Fu21 F17.1 (Or.inr ⟨(w29 hw), rfl, hnm⟩) (w2 hw) (ty := .long) (by decide) rfl rfl (g := (mkF m 65 #[.val (.ref a1), .val (.long q2), .second, .val (.long q3), .second] [(.long q3), (.ref a1)])) rfl rfl (hb hby dwl_65)
  have F22 := Fr.snoc X21 F16 g1
  have F23 := F17.wr W21
  have F24 := F20.other W21 (Or.inr (slot_ne (Or.inr (w27 hw) : Laid Z a0 "com/example/span60/span60/limit/SlidingWindow" "com/example/span60/span60/limit/WindowLimit" "limit" "J") (Or.inr (w29 hw) : Laid Z a0 "com/example/span60/span60/limit/SlidingWindow" "com/example/span60/span60/limit/WindowLimit" "windowSeconds" "J") (by decide) (t := .long) (t' := .long) (by decide) (by decide)))
  have F25 := F18.wr W21 g1
  have F26 := F19.wr W21 (Or.inl (List.mem_of_getElem? (i := 0) rfl))
  have F27 : Fld Z h21 a1 "com/example/span60/span60/limit/WindowLimit" "windowSeconds" "J" (.long q3) := Fu21.same W21
  refine own_step (T' := T21) (g' := (mkF m 68 #[.val (.ref a1), .val (.long q2), .second, .val (.long q3), .second] [])) (fun _ kk => st21 _ kk) ?_
  refine own_step (T' := T21) (g' := (mkF m 69 #[.val (.ref a1), .val (.long q2), .second, .val (.long q3), .second] [(.ref a1)])) (fun _ kk => XS.aloadN X21.here hx rfl (hb hby dwl_68) rfl rfl kk) ?_
  refine own_step (T' := T21) (g' := (mkF m 70 #[.val (.ref a1), .val (.long q2), .second, .val (.long q3), .second] [(.long q3), (.ref a1)])) (fun _ kk => XS.lloadN X21.here hx rfl (hb hby dwl_69) rfl kk) ?_
  refine own_step (T' := T21) (g' := (mkF m 73 #[.val (.ref a1), .val (.long q2), .second, .val (.long q3), .second] [(.long (1000 : Int64)), (.long q3), (.ref a1)])) (fun _ kk => X21.ldc2Long hx hown (mvT hZ (w30 hw)) (g := (mkF m 70 #[.val (.ref a1), .val (.long q2), .second, .val (.long q3), .second] [(.long q3), (.ref a1)])) rfl (hb hby dwl_70) _ kk) ?_
  refine own_step (T' := T21) (g' := (mkF m 74 #[.val (.ref a1), .val (.long q2), .second, .val (.long q3), .second] [(.long (q3 * (1000 : Int64))), (.ref a1)])) (fun _ kk => XS.lmul X21.here hx rfl (hb hby dwl_73) rfl kk) ?_
  obtain ⟨u28, Fu28⟩ := F23.fld (w2 hw) (Or.inr (w32 hw) : Laid Z a0 "com/example/span60/span60/limit/SlidingWindow" "com/example/span60/span60/limit/WindowLimit" "windowMillis" "J")
  obtain ⟨T28, h28, X28, e28, W28, st28⟩ := putF X21 hx hZ hown (host := "") (Or.inl (w31 hw)) Via.refl e21 Fu28 F23.1 (Or.inr ⟨(w32 hw), rfl, hnm⟩) (w2 hw) (ty := .long) (by decide) rfl rfl (g := (mkF m 74 #[.val (.ref a1), .val (.long q2), .second, .val (.long q3), .second] [(.long (q3 * (1000 : Int64))), (.ref a1)])) rfl rfl (hb hby dwl_74)
  have F29 := Fr.snoc X28 F22 g1
  have F30 := F23.wr W28
  have F31 := F24.other W28 (Or.inr (slot_ne (Or.inr (w27 hw) : Laid Z a0 "com/example/span60/span60/limit/SlidingWindow" "com/example/span60/span60/limit/WindowLimit" "limit" "J") (Or.inr (w32 hw) : Laid Z a0 "com/example/span60/span60/limit/SlidingWindow" "com/example/span60/span60/limit/WindowLimit" "windowMillis" "J") (by decide) (t := .long) (t' := .long) (by decide) (by decide)))
  have F32 := F27.other W28 (Or.inr (slot_ne (Or.inr (w29 hw) : Laid Z a0 "com/example/span60/span60/limit/SlidingWindow" "com/example/span60/span60/limit/WindowLimit" "windowSeconds" "J") (Or.inr (w32 hw) : Laid Z a0 "com/example/span60/span60/limit/SlidingWindow" "com/example/span60/span60/limit/WindowLimit" "windowMillis" "J") (by decide) (t := .long) (t' := .long) (by decide) (by decide)))
  have F33 := F25.wr W28 g1
  have F34 := F26.wr W28 (Or.inl (List.mem_of_getElem? (i := 0) rfl))
  have F35 : Fld Z h28 a1 "com/example/span60/span60/limit/WindowLimit" "windowMillis" "J" (.long (q3 * (1000 : Int64))) := Fu28.same W28
  refine own_step (T' := T28) (g' := (mkF m 77 #[.val (.ref a1), .val (.long q2), .second, .val (.long q3), .second] [])) (fun _ kk => st28 _ kk) ?_
  exact own_retV X28 hx hlk hret (hb hby dwl_77) e28 ⟨rfl, F29, F34, F30, F35⟩ (by decide) (by decide)
theorem dmpp_0 : decode prog_6_method_13_code 0 = .ok (.ldc2_w 29, 3) := by decide +kernel
theorem dmpp_3 : decode prog_6_method_13_code 3 = .ok (.lload_n 0, 1) := by decide +kernel
theorem dmpp_4 : decode prog_6_method_13_code 4 = .ok (.ldiv, 1) := by decide +kernel
theorem dmpp_5 : decode prog_6_method_13_code 5 = .ok (.lreturn, 1) := by decide +kernel
set_option maxRecDepth 65536 in
set_option maxHeartbeats 40000000 in
theorem rm_mpp (l : Launch) (Z : State) (a0 : Array Value) (hw : ∀ d ∈ tables_1, d.before a0 Z = true) (q3 : Int64) (h0 : Heap) (O0 : Old Z Z.heap.size h0) (k1 : 1 ≤ q3.toInt) :
    own_Con l Z (⟨"com/example/span60/span60/limit/Algorithm", "maxPerPeriod", "(J)J"⟩ : MethodName) prog_6_method_13_code 2 (some .long) ({ frames := 0, cells := 0, slots := 0, locals := 0 } : Room) #[(.long q3)] h0 (fun v h L => v = some (.long ((9007199254740 : Int64) / q3)) ∧ Fr Z.heap.size L ∧ h = h0) := by
  refine own_con (ls := #[.val (.long q3), .second]) (pn_com_example_span60_span60_limit_Algorithm) (fun m => by first | (simp [entryFrame, mkF, argsToLocals, Value.category]; done) | rfl) ?_
  intro p e s m below meth c s₁ hx hby hml0 hown0 hnm0 hret0 hlk hZ X0 e0
  have hml : c.maxLocals = 2 := hml0
  have hown : s.vm.findClass "com/example/span60/span60/limit/Algorithm" = some m.cls := hown0
  have hnm : meth.name = "maxPerPeriod" := hnm0
  have hret : meth.sig.returnType = (some .long) := hret0
  have F36 := Fr.nil Z.heap.size
  have F37 := Keep.refl h0 []
  refine own_step (T' := s₁) (g' := (mkF m 3 #[.val (.long q3), .second] [(.long (9007199254740 : Int64))])) (fun _ kk => X0.ldc2Long hx hown (mvT hZ (w40 hw)) (g := (mkF m 0 #[.val (.long q3), .second] [])) rfl (hb hby dmpp_0) _ kk) ?_
  refine own_step (T' := s₁) (g' := (mkF m 4 #[.val (.long q3), .second] [(.long q3), (.long (9007199254740 : Int64))])) (fun _ kk => XS.lloadN X0.here hx rfl (hb hby dmpp_3) rfl kk) ?_
  refine own_step (T' := s₁) (g' := (mkF m 5 #[.val (.long q3), .second] [(.long ((9007199254740 : Int64) / q3))])) (fun _ kk => XS.ldiv X0.here hx rfl (hb hby dmpp_4) rfl (own_ne64 k1) kk) ?_
  exact own_retL X0 hx hlk hret (hb hby dmpp_5) e0 ⟨rfl, F36, rfl⟩ (by decide) (by decide)
theorem dml_0 : decode prog_33_method_4_code 0 = .ok (.lload_n 0, 1) := by decide +kernel
theorem dml_1 : decode prog_33_method_4_code 1 = .ok (.invokestatic 47, 3) := by decide +kernel
theorem dml_4 : decode prog_33_method_4_code 4 = .ok (.lreturn, 1) := by decide +kernel
set_option maxRecDepth 65536 in
set_option maxHeartbeats 40000000 in
theorem rm_ml (l : Launch) (Z : State) (a0 : Array Value) (hw : ∀ d ∈ tables_1, d.before a0 Z = true) (q3 : Int64) (h0 : Heap) (O0 : Old Z Z.heap.size h0) (k1 : 1 ≤ q3.toInt) :
    own_Con l Z (⟨"com/example/span60/span60/limit/SlidingWindow", "maxLimit", "(J)J"⟩ : MethodName) prog_33_method_4_code 2 (some .long) ({ frames := 1, cells := 0, slots := 0, locals := 13 } : Room) #[(.long q3)] h0 (fun v h L => v = some (.long ((9007199254740 : Int64) / q3)) ∧ Fr Z.heap.size L ∧ h = h0) := by
  refine own_con (ls := #[.val (.long q3), .second]) (pn_com_example_span60_span60_limit_SlidingWindow) (fun m => by first | (simp [entryFrame, mkF, argsToLocals, Value.category]; done) | rfl) ?_
  intro p e s m below meth c s₁ hx hby hml0 hown0 hnm0 hret0 hlk hZ X0 e0
  have hml : c.maxLocals = 2 := hml0
  have hown : s.vm.findClass "com/example/span60/span60/limit/SlidingWindow" = some m.cls := hown0
  have hnm : meth.name = "maxLimit" := hnm0
  have hret : meth.sig.returnType = (some .long) := hret0
  have F38 := Fr.nil Z.heap.size
  have F39 := Keep.refl h0 []
  refine own_step (T' := s₁) (g' := (mkF m 1 #[.val (.long q3), .second] [(.long q3)])) (fun _ kk => XS.lloadN X0.here hx rfl (hb hby dml_0) rfl kk) ?_
  obtain ⟨T41, L41, _, h41, X41, e41, ⟨rfl, Nq40, eh40⟩, st41⟩ := own_callSU X0 hx hZ hown (w36 hw) (w37 hw) (w38 hw) (w39 hw) (w18 hw) (by decide) (g := (mkF m 1 #[.val (.long q3), .second] [(.long q3)])) rfl (by rw [hml]; rfl) (argsL := [(.long q3)]) (rest := []) (rm_mpp l Z a0 hw q3 _ O0 k1) e0 pd__J_J rfl rfl (W := 0) (by show 2 * 0 + _ ≤ _; exact Nat.le_of_eq rfl) (hb hby dml_1) (by decide) (by decide) (by decide) (by decide)
  have F42 := Fr.app F38 Nq40
  have F43 := e41.trans eh40
  refine own_step (T' := T41) (g' := (mkF m 4 #[.val (.long q3), .second] [(.long ((9007199254740 : Int64) / q3))])) (fun _ kk => st41 _ kk) ?_
  exact own_retL X41 hx hlk hret (hb hby dml_4) F43 ⟨rfl, F42, rfl⟩ (by decide) (by decide)
theorem dgw_0 : decode prog_44_method_4_code 0 = .ok (.aload_n 0, 1) := by decide +kernel
theorem dgw_1 : decode prog_44_method_4_code 1 = .ok (.getfield 34, 3) := by decide +kernel
theorem dgw_4 : decode prog_44_method_4_code 4 = .ok (.lreturn, 1) := by decide +kernel
set_option maxRecDepth 65536 in
set_option maxHeartbeats 40000000 in
theorem rm_gw (l : Launch) (Z : State) (a0 : Array Value) (hw : ∀ d ∈ tables_1, d.before a0 Z = true) (a1 : Addr) (q2 : Int64) (h0 : Heap) (O0 : Old Z Z.heap.size h0) (F1 : Fld Z h0 a1 "com/example/span60/span60/limit/WindowLimit" "windowMillis" "J" (.long q2)) :
    own_Con l Z (⟨"com/example/span60/span60/limit/WindowLimit", "getWindowMillis", "()J"⟩ : MethodName) prog_44_method_4_code 1 (some .long) ({ frames := 0, cells := 0, slots := 0, locals := 0 } : Room) #[(.ref a1)] h0 (fun v h L => v = some (.long q2) ∧ Fr Z.heap.size L ∧ h = h0) := by
  refine own_con (ls := #[.val (.ref a1)]) (pn_com_example_span60_span60_limit_WindowLimit) (fun m => by first | (simp [entryFrame, mkF, argsToLocals, Value.category]; done) | rfl) ?_
  intro p e s m below meth c s₁ hx hby hml0 hown0 hnm0 hret0 hlk hZ X0 e0
  have hml : c.maxLocals = 1 := hml0
  have hown : s.vm.findClass "com/example/span60/span60/limit/WindowLimit" = some m.cls := hown0
  have hnm : meth.name = "getWindowMillis" := hnm0
  have hret : meth.sig.returnType = (some .long) := hret0
  have F44 := Fr.nil Z.heap.size
  have F45 := Keep.refl h0 []
  refine own_step (T' := s₁) (g' := (mkF m 1 #[.val (.ref a1)] [(.ref a1)])) (fun _ kk => XS.aloadN X0.here hx rfl (hb hby dgw_0) rfl rfl kk) ?_
  obtain ⟨T46, X46, e46, st46⟩ := getF X0 hx hZ hown (host := "") (Or.inl (w31 hw)) Via.refl e0 F1 (g := (mkF m 1 #[.val (.ref a1)] [(.ref a1)])) rfl rfl (hb hby dgw_1)
  refine own_step (T' := T46) (g' := (mkF m 4 #[.val (.ref a1)] [(.long q2)])) (fun _ kk => st46 _ kk) ?_
  exact own_retL X46 hx hlk hret (hb hby dgw_4) e46 ⟨rfl, F44, rfl⟩ (by decide) (by decide)
theorem dsw3_0 : decode prog_33_method_3_code 0 = .ok (.aload_n 0, 1) := by decide +kernel
theorem dsw3_1 : decode prog_33_method_3_code 1 = .ok (.lload_n 1, 1) := by decide +kernel
theorem dsw3_2 : decode prog_33_method_3_code 2 = .ok (.lload_n 3, 1) := by decide +kernel
theorem dsw3_3 : decode prog_33_method_3_code 3 = .ok (.invokespecial 14, 3) := by decide +kernel
theorem dsw3_6 : decode prog_33_method_3_code 6 = .ok (.aload_n 0, 1) := by decide +kernel
theorem dsw3_7 : decode prog_33_method_3_code 7 = .ok (.lload_n 3, 1) := by decide +kernel
theorem dsw3_8 : decode prog_33_method_3_code 8 = .ok (.invokestatic 19, 3) := by decide +kernel
theorem dsw3_11 : decode prog_33_method_3_code 11 = .ok (.putfield 23, 3) := by decide +kernel
theorem dsw3_14 : decode prog_33_method_3_code 14 = .ok (.lload_n 1, 1) := by decide +kernel
theorem dsw3_15 : decode prog_33_method_3_code 15 = .ok (.aload_n 0, 1) := by decide +kernel
theorem dsw3_16 : decode prog_33_method_3_code 16 = .ok (.getfield 23, 3) := by decide +kernel
theorem dsw3_19 : decode prog_33_method_3_code 19 = .ok (.lcmp, 1) := by decide +kernel
theorem dsw3_20 : decode prog_33_method_3_code 20 = .ok (.ifCond .le 13, 3) := by decide +kernel
theorem dsw3_23 : decode prog_33_method_3_code 23 = .ok (.new 7, 3) := by decide +kernel
theorem dsw3_26 : decode prog_33_method_3_code 26 = .ok (.dup, 1) := by decide +kernel
theorem dsw3_27 : decode prog_33_method_3_code 27 = .ok (.ldc 29, 2) := by decide +kernel
theorem dsw3_29 : decode prog_33_method_3_code 29 = .ok (.invokespecial 11, 3) := by decide +kernel
theorem dsw3_32 : decode prog_33_method_3_code 32 = .ok (.athrow, 1) := by decide +kernel
theorem dsw3_33 : decode prog_33_method_3_code 33 = .ok (.aload_n 0, 1) := by decide +kernel
theorem dsw3_34 : decode prog_33_method_3_code 34 = .ok (.invokevirtual 31, 3) := by decide +kernel
theorem dsw3_37 : decode prog_33_method_3_code 37 = .ok (.iload 5, 2) := by decide +kernel
theorem dsw3_39 : decode prog_33_method_3_code 39 = .ok (.i2l, 1) := by decide +kernel
theorem dsw3_40 : decode prog_33_method_3_code 40 = .ok (.lrem, 1) := by decide +kernel
theorem dsw3_41 : decode prog_33_method_3_code 41 = .ok (.lconst 0, 1) := by decide +kernel
theorem dsw3_42 : decode prog_33_method_3_code 42 = .ok (.lcmp, 1) := by decide +kernel
theorem dsw3_43 : decode prog_33_method_3_code 43 = .ok (.ifCond .eq 13, 3) := by decide +kernel
theorem dsw3_46 : decode prog_33_method_3_code 46 = .ok (.new 7, 3) := by decide +kernel
theorem dsw3_49 : decode prog_33_method_3_code 49 = .ok (.dup, 1) := by decide +kernel
theorem dsw3_50 : decode prog_33_method_3_code 50 = .ok (.ldc 35, 2) := by decide +kernel
theorem dsw3_52 : decode prog_33_method_3_code 52 = .ok (.invokespecial 11, 3) := by decide +kernel
theorem dsw3_55 : decode prog_33_method_3_code 55 = .ok (.athrow, 1) := by decide +kernel
theorem dsw3_56 : decode prog_33_method_3_code 56 = .ok (.aload_n 0, 1) := by decide +kernel
theorem dsw3_57 : decode prog_33_method_3_code 57 = .ok (.iload 5, 2) := by decide +kernel
theorem dsw3_59 : decode prog_33_method_3_code 59 = .ok (.putfield 37, 3) := by decide +kernel
theorem dsw3_62 : decode prog_33_method_3_code 62 = .ok (.aload_n 0, 1) := by decide +kernel
theorem dsw3_63 : decode prog_33_method_3_code 63 = .ok (.aload_n 0, 1) := by decide +kernel
theorem dsw3_64 : decode prog_33_method_3_code 64 = .ok (.invokevirtual 31, 3) := by decide +kernel
theorem dsw3_67 : decode prog_33_method_3_code 67 = .ok (.iload 5, 2) := by decide +kernel
theorem dsw3_69 : decode prog_33_method_3_code 69 = .ok (.i2l, 1) := by decide +kernel
theorem dsw3_70 : decode prog_33_method_3_code 70 = .ok (.ldiv, 1) := by decide +kernel
theorem dsw3_71 : decode prog_33_method_3_code 71 = .ok (.putfield 41, 3) := by decide +kernel
theorem dsw3_74 : decode prog_33_method_3_code 74 = .ok (.aload_n 0, 1) := by decide +kernel
theorem dsw3_75 : decode prog_33_method_3_code 75 = .ok (.iload 5, 2) := by decide +kernel
theorem dsw3_77 : decode prog_33_method_3_code 77 = .ok (.iconst 1, 1) := by decide +kernel
theorem dsw3_78 : decode prog_33_method_3_code 78 = .ok (.if_icmp .ne 10, 3) := by decide +kernel
theorem dsw3_81 : decode prog_33_method_3_code 81 = .ok (.aload_n 0, 1) := by decide +kernel
theorem dsw3_82 : decode prog_33_method_3_code 82 = .ok (.getfield 41, 3) := by decide +kernel
theorem dsw3_85 : decode prog_33_method_3_code 85 = .ok (.goto 9, 3) := by decide +kernel
theorem dsw3_88 : decode prog_33_method_3_code 88 = .ok (.aload_n 0, 1) := by decide +kernel
theorem dsw3_89 : decode prog_33_method_3_code 89 = .ok (.getfield 41, 3) := by decide +kernel
theorem dsw3_92 : decode prog_33_method_3_code 92 = .ok (.lconst 1, 1) := by decide +kernel
theorem dsw3_93 : decode prog_33_method_3_code 93 = .ok (.lsub, 1) := by decide +kernel
theorem dsw3_94 : decode prog_33_method_3_code 94 = .ok (.putfield 44, 3) := by decide +kernel
theorem dsw3_97 : decode prog_33_method_3_code 97 = .ok (.return_, 1) := by decide +kernel
set_option maxRecDepth 65536 in
set_option maxHeartbeats 40000000 in
theorem rm_sw3 (l : Launch) (Z : State) (a0 : Array Value) (hw : ∀ d ∈ tables_1, d.before a0 Z = true) (a1 : Addr) (q2 q3 : Int64) (p4 : Int32) (h0 : Heap) (O0 : Old Z Z.heap.size h0) (O1 : own_Obj Z h0 a1 "com/example/span60/span60/limit/SlidingWindow") (g1 : Z.heap.size ≤ a1) (S1 : Sta Z Z.heap "com/example/span60/span60/limit/WindowLimit" "MAX_WINDOW_SECONDS" "J" (.long (9007199254740 : Int64))) (l1 : 1 ≤ q2.toInt) (l2 : q2.toInt ≤ 16777216) (k1 : 1 ≤ q3.toInt) (k2 : q3.toInt ≤ 102400) (c1 : 1 ≤ p4.toInt) (c2 : p4.toInt ≤ 100) (c3 : q3.toInt % p4.toInt = 0) :
    own_Con l Z (⟨"com/example/span60/span60/limit/SlidingWindow", "<init>", "(JJI)V"⟩ : MethodName) prog_33_method_3_code 6 none ({ frames := 3, cells := 0, slots := 0, locals := 40 } : Room) #[(.ref a1), (.long q2), (.long q3), (.int p4)] h0 (fun v h L => v = none ∧ Fr Z.heap.size L ∧ Keep h0 h [a1] ∧ own_Obj Z h a1 "com/example/span60/span60/limit/SlidingWindow" ∧ Fld Z h a1 "com/example/span60/span60/limit/SlidingWindow" "subWindows" "I" (.int p4)) := by
  refine own_con (ls := #[.val (.ref a1), .val (.long q2), .second, .val (.long q3), .second, .val (.int p4)]) (pn_com_example_span60_span60_limit_SlidingWindow) (fun m => by first | (simp [entryFrame, mkF, argsToLocals, Value.category]; done) | rfl) ?_
  intro p e s m below meth c s₁ hx hby hml0 hown0 hnm0 hret0 hlk hZ X0 e0
  have hml : c.maxLocals = 6 := hml0
  have hown : s.vm.findClass "com/example/span60/span60/limit/SlidingWindow" = some m.cls := hown0
  have hnm : meth.name = "<init>" := hnm0
  have hret : meth.sig.returnType = none := hret0
  have F47 := Fr.nil Z.heap.size
  have F48 := Keep.refl h0 []
  have F49 := Keep.refl h0 [a1]
  refine own_step (T' := s₁) (g' := (mkF m 1 #[.val (.ref a1), .val (.long q2), .second, .val (.long q3), .second, .val (.int p4)] [(.ref a1)])) (fun _ kk => XS.aloadN X0.here hx rfl (hb hby dsw3_0) rfl rfl kk) ?_
  refine own_step (T' := s₁) (g' := (mkF m 2 #[.val (.ref a1), .val (.long q2), .second, .val (.long q3), .second, .val (.int p4)] [(.long q2), (.ref a1)])) (fun _ kk => XS.lloadN X0.here hx rfl (hb hby dsw3_1) rfl kk) ?_
  refine own_step (T' := s₁) (g' := (mkF m 3 #[.val (.ref a1), .val (.long q2), .second, .val (.long q3), .second, .val (.int p4)] [(.long q3), (.long q2), (.ref a1)])) (fun _ kk => XS.lloadN X0.here hx rfl (hb hby dsw3_2) rfl kk) ?_
  obtain ⟨T50, L50, _, h50, X50, e50, ⟨rfl, Nq, Kq, Oq, Fq⟩, st50⟩ := own_callC X0 hx hZ hown rfl (w10 hw) (w11 hw) (w14 hw) (w13 hw) (by decide) (a := a1) (g := (mkF m 3 #[.val (.ref a1), .val (.long q2), .second, .val (.long q3), .second, .val (.int p4)] [(.long q3), (.long q2), (.ref a1)])) rfl (by rw [hml]; rfl) (argsL := [(.long q2), (.long q3)]) (rest := []) (rm_wl l Z a0 hw a1 q2 q3 _ O0 O1 g1 S1 l1 l2 k1 k2) e0 pd__JJ_V rfl rfl (W := 0) (by show 2 * 0 + _ ≤ _; exact Nat.le_of_eq rfl) (hb hby dsw3_3) (by decide) (by decide) (by decide) (by decide)
  have F51 := Fr.app F47 Nq
  have F52 := O1.keep Kq
  have F53 := O0.keep Kq (allS g1 all0)
  have F54 := F49.trans Kq (allS (Or.inl (List.mem_of_getElem? (i := 0) rfl)) all0)
  refine own_step (T' := T50) (g' := (mkF m 6 #[.val (.ref a1), .val (.long q2), .second, .val (.long q3), .second, .val (.int p4)] [])) (fun _ kk => st50 _ kk) ?_
  refine own_step (T' := T50) (g' := (mkF m 7 #[.val (.ref a1), .val (.long q2), .second, .val (.long q3), .second, .val (.int p4)] [(.ref a1)])) (fun _ kk => XS.aloadN X50.here hx rfl (hb hby dsw3_6) rfl rfl kk) ?_
  refine own_step (T' := T50) (g' := (mkF m 8 #[.val (.ref a1), .val (.long q2), .second, .val (.long q3), .second, .val (.int p4)] [(.long q3), (.ref a1)])) (fun _ kk => XS.lloadN X50.here hx rfl (hb hby dsw3_7) rfl kk) ?_
  obtain ⟨T56, L56, _, h56, X56, e56, ⟨rfl, Nq55, eh55⟩, st56⟩ := own_callS X50 hx hZ hown (w33 hw) (w34 hw) (w35 hw) (w3 hw) (by decide) (g := (mkF m 8 #[.val (.ref a1), .val (.long q2), .second, .val (.long q3), .second, .val (.int p4)] [(.long q3), (.ref a1)])) rfl (by rw [hml]; rfl) (argsL := [(.long q3)]) (rest := [(.ref a1)]) (rm_ml l Z a0 hw q3 _ F53 k1) e50 pd__J_J rfl rfl (W := 1) (by show 2 * 0 + _ ≤ _; exact Nat.le_of_eq rfl) (hb hby dsw3_8) (by decide) (by decide) (by decide) (by decide)
  have F57 := Fr.app F51 Nq55
  have F58 := e56.trans eh55
  refine own_step (T' := T56) (g' := (mkF m 11 #[.val (.ref a1), .val (.long q2), .second, .val (.long q3), .second, .val (.int p4)] [(.long ((9007199254740 : Int64) / q3)), (.ref a1)])) (fun _ kk => st56 _ kk) ?_
  obtain ⟨u59, Fu59⟩ := F52.fld (w2 hw) (Or.inr (w42 hw) : Laid Z a0 "com/example/span60/span60/limit/SlidingWindow" "com/example/span60/span60/limit/SlidingWindow" "mostCounted" "J")
  obtain ⟨T59, h59, X59, e59, W59, st59⟩ := putF X56 hx hZ hown (host := "") (Or.inl (w41 hw)) Via.refl F58 Fu59 F52.1 (Or.inr ⟨(w42 hw), rfl, hnm⟩) (w2 hw) (ty := .long) (by decide) rfl rfl (g := (mkF m 11 #[.val (.ref a1), .val (.long q2), .second, .val (.long q3), .second, .val (.int p4)] [(.long ((9007199254740 : Int64) / q3)), (.ref a1)])) rfl rfl (hb hby dsw3_11)
  have F60 := Fr.snoc X59 F57 g1
  have F61 := F52.wr W59
  have F62 := Fq.other W59 (Or.inr (slot_ne (Or.inr (w32 hw) : Laid Z a0 "com/example/span60/span60/limit/SlidingWindow" "com/example/span60/span60/limit/WindowLimit" "windowMillis" "J") (Or.inr (w42 hw) : Laid Z a0 "com/example/span60/span60/limit/SlidingWindow" "com/example/span60/span60/limit/SlidingWindow" "mostCounted" "J") (by decide) (t := .long) (t' := .long) (by decide) (by decide)))
  have F63 := F53.wr W59 g1
  have F64 := F54.wr W59 (Or.inl (List.mem_of_getElem? (i := 0) rfl))
  have F65 : Fld Z h59 a1 "com/example/span60/span60/limit/SlidingWindow" "mostCounted" "J" (.long ((9007199254740 : Int64) / q3)) := Fu59.same W59
  refine own_step (T' := T59) (g' := (mkF m 14 #[.val (.ref a1), .val (.long q2), .second, .val (.long q3), .second, .val (.int p4)] [])) (fun _ kk => st59 _ kk) ?_
  refine own_step (T' := T59) (g' := (mkF m 15 #[.val (.ref a1), .val (.long q2), .second, .val (.long q3), .second, .val (.int p4)] [(.long q2)])) (fun _ kk => XS.lloadN X59.here hx rfl (hb hby dsw3_14) rfl kk) ?_
  refine own_step (T' := T59) (g' := (mkF m 16 #[.val (.ref a1), .val (.long q2), .second, .val (.long q3), .second, .val (.int p4)] [(.ref a1), (.long q2)])) (fun _ kk => XS.aloadN X59.here hx rfl (hb hby dsw3_15) rfl rfl kk) ?_
  obtain ⟨T66, X66, e66, st66⟩ := getF X59 hx hZ hown (host := "") (Or.inl (w41 hw)) Via.refl e59 F65 (g := (mkF m 16 #[.val (.ref a1), .val (.long q2), .second, .val (.long q3), .second, .val (.int p4)] [(.ref a1), (.long q2)])) rfl rfl (hb hby dsw3_16)
  refine own_step (T' := T66) (g' := (mkF m 19 #[.val (.ref a1), .val (.long q2), .second, .val (.long q3), .second, .val (.int p4)] [(.long ((9007199254740 : Int64) / q3)), (.long q2)])) (fun _ kk => st66 _ kk) ?_
  refine own_step (T' := T66) (g' := (mkF m 20 #[.val (.ref a1), .val (.long q2), .second, .val (.long q3), .second, .val (.int p4)] [(.int (lcmpW q2 ((9007199254740 : Int64) / q3)))])) (fun _ kk => XS.lcmp X66.here hx rfl (hb hby dsw3_19) rfl kk) ?_
  refine own_step (T' := T66) (g' := (mkF m 33 #[.val (.ref a1), .val (.long q2), .second, .val (.long q3), .second, .val (.int p4)] [])) (fun _ kk => XS.ifYes X66.here hx rfl (pc0 := 20) (pc' := 33) rfl (hb hby dsw3_20) rfl ((if0 _ _).trans (flt (own_ng (own_most l2 k1 k2))).2.2.2) (by decide) (by decide) kk) ?_
  refine own_step (T' := T66) (g' := (mkF m 34 #[.val (.ref a1), .val (.long q2), .second, .val (.long q3), .second, .val (.int p4)] [(.ref a1)])) (fun _ kk => XS.aloadN X66.here hx rfl (hb hby dsw3_33) rfl rfl kk) ?_
  obtain ⟨T68, L68, _, h68, X68, e68, ⟨rfl, Nq67, eh67⟩, st68⟩ := own_callVU X66 hx hZ hown (w43 hw) (w44 hw) (w45 hw) (by decide) (w47 hw) (w46 hw) (w48 hw) (w13 hw) F61.1 (g := (mkF m 34 #[.val (.ref a1), .val (.long q2), .second, .val (.long q3), .second, .val (.int p4)] [(.ref a1)])) rfl (by rw [hml]; rfl) (argsL := []) (rest := []) (rm_gw l Z a0 hw a1 (q3 * (1000 : Int64)) _ F63 F62) e66 pd___J rfl rfl (W := 0) (by show 2 * 0 + _ ≤ _; exact Nat.le_of_eq rfl) (hb hby dsw3_34) (by decide) (by decide) (by decide) (by decide)
  have F69 := Fr.app F60 Nq67
  have F70 := e68.trans eh67
  refine own_step (T' := T68) (g' := (mkF m 37 #[.val (.ref a1), .val (.long q2), .second, .val (.long q3), .second, .val (.int p4)] [(.long (q3 * (1000 : Int64)))])) (fun _ kk => st68 _ kk) ?_
  refine own_step (T' := T68) (g' := (mkF m 39 #[.val (.ref a1), .val (.long q2), .second, .val (.long q3), .second, .val (.int p4)] [(.int p4), (.long (q3 * (1000 : Int64)))])) (fun _ kk => XS.iload X68.here hx rfl (hb hby dsw3_37) rfl kk) ?_
  refine own_step (T' := T68) (g' := (mkF m 40 #[.val (.ref a1), .val (.long q2), .second, .val (.long q3), .second, .val (.int p4)] [(.long (p4.toInt64)), (.long (q3 * (1000 : Int64)))])) (fun _ kk => XS.i2l X68.here hx rfl (hb hby dsw3_39) rfl kk) ?_
  refine own_step (T' := T68) (g' := (mkF m 41 #[.val (.ref a1), .val (.long q2), .second, .val (.long q3), .second, .val (.int p4)] [(.long ((q3 * (1000 : Int64)) - ((q3 * (1000 : Int64)) / (p4.toInt64)) * (p4.toInt64)))])) (fun _ kk => XS.lrem X68.here hx rfl (hb hby dsw3_40) rfl (own_kne c1) kk) ?_
  refine own_step (T' := T68) (g' := (mkF m 42 #[.val (.ref a1), .val (.long q2), .second, .val (.long q3), .second, .val (.int p4)] [(.long (0 : Int64)), (.long ((q3 * (1000 : Int64)) - ((q3 * (1000 : Int64)) / (p4.toInt64)) * (p4.toInt64)))])) (fun _ kk => XS.lconst X68.here hx rfl (hb hby dsw3_41) kk) ?_
  refine own_step (T' := T68) (g' := (mkF m 43 #[.val (.ref a1), .val (.long q2), .second, .val (.long q3), .second, .val (.int p4)] [(.int (lcmpW ((q3 * (1000 : Int64)) - ((q3 * (1000 : Int64)) / (p4.toInt64)) * (p4.toInt64)) (0 : Int64)))])) (fun _ kk => XS.lcmp X68.here hx rfl (hb hby dsw3_42) rfl kk) ?_
  refine own_step (T' := T68) (g' := (mkF m 56 #[.val (.ref a1), .val (.long q2), .second, .val (.long q3), .second, .val (.int p4)] [])) (fun _ kk => XS.ifYes X68.here hx rfl (pc0 := 43) (pc' := 56) rfl (hb hby dsw3_43) rfl ((if0 _ _).trans (teq (own_rem k1 k2 c1 c3)).1) (by decide) (by decide) kk) ?_
  refine own_step (T' := T68) (g' := (mkF m 57 #[.val (.ref a1), .val (.long q2), .second, .val (.long q3), .second, .val (.int p4)] [(.ref a1)])) (fun _ kk => XS.aloadN X68.here hx rfl (hb hby dsw3_56) rfl rfl kk) ?_
  refine own_step (T' := T68) (g' := (mkF m 59 #[.val (.ref a1), .val (.long q2), .second, .val (.long q3), .second, .val (.int p4)] [(.int p4), (.ref a1)])) (fun _ kk => XS.iload X68.here hx rfl (hb hby dsw3_57) rfl kk) ?_
  obtain ⟨u71, Fu71⟩ := F61.fld (w2 hw) (Or.inr (w50 hw) : Laid Z a0 "com/example/span60/span60/limit/SlidingWindow" "com/example/span60/span60/limit/SlidingWindow" "subWindows" "I")
  obtain ⟨T71, h71, X71, e71, W71, st71⟩ := putF X68 hx hZ hown (host := "") (Or.inl (w49 hw)) Via.refl F70 Fu71 F61.1 (Or.inr ⟨(w50 hw), rfl, hnm⟩) (w2 hw) (ty := .int) (by decide) rfl rfl (g := (mkF m 59 #[.val (.ref a1), .val (.long q2), .second, .val (.long q3), .second, .val (.int p4)] [(.int p4), (.ref a1)])) rfl rfl (hb hby dsw3_59)
  have F72 := Fr.snoc X71 F69 g1
  have F73 := F61.wr W71
  have F74 := F62.other W71 (Or.inr (slot_ne (Or.inr (w32 hw) : Laid Z a0 "com/example/span60/span60/limit/SlidingWindow" "com/example/span60/span60/limit/WindowLimit" "windowMillis" "J") (Or.inr (w50 hw) : Laid Z a0 "com/example/span60/span60/limit/SlidingWindow" "com/example/span60/span60/limit/SlidingWindow" "subWindows" "I") (by decide) (t := .long) (t' := .int) (by decide) (by decide)))
  have F75 := F65.other W71 (Or.inr (slot_ne (Or.inr (w42 hw) : Laid Z a0 "com/example/span60/span60/limit/SlidingWindow" "com/example/span60/span60/limit/SlidingWindow" "mostCounted" "J") (Or.inr (w50 hw) : Laid Z a0 "com/example/span60/span60/limit/SlidingWindow" "com/example/span60/span60/limit/SlidingWindow" "subWindows" "I") (by decide) (t := .long) (t' := .int) (by decide) (by decide)))
  have F76 := F63.wr W71 g1
  have F77 := F64.wr W71 (Or.inl (List.mem_of_getElem? (i := 0) rfl))
  have F78 : Fld Z h71 a1 "com/example/span60/span60/limit/SlidingWindow" "subWindows" "I" (.int p4) := Fu71.same W71
  refine own_step (T' := T71) (g' := (mkF m 62 #[.val (.ref a1), .val (.long q2), .second, .val (.long q3), .second, .val (.int p4)] [])) (fun _ kk => st71 _ kk) ?_
  refine own_step (T' := T71) (g' := (mkF m 63 #[.val (.ref a1), .val (.long q2), .second, .val (.long q3), .second, .val (.int p4)] [(.ref a1)])) (fun _ kk => XS.aloadN X71.here hx rfl (hb hby dsw3_62) rfl rfl kk) ?_
  refine own_step (T' := T71) (g' := (mkF m 64 #[.val (.ref a1), .val (.long q2), .second, .val (.long q3), .second, .val (.int p4)] [(.ref a1), (.ref a1)])) (fun _ kk => XS.aloadN X71.here hx rfl (hb hby dsw3_63) rfl rfl kk) ?_
  obtain ⟨T80, L80, _, h80, X80, e80, ⟨rfl, Nq79, eh79⟩, st80⟩ := own_callVU X71 hx hZ hown (w43 hw) (w44 hw) (w45 hw) (by decide) (w47 hw) (w46 hw) (w48 hw) (w13 hw) F73.1 (g := (mkF m 64 #[.val (.ref a1), .val (.long q2), .second, .val (.long q3), .second, .val (.int p4)] [(.ref a1), (.ref a1)])) rfl (by rw [hml]; rfl) (argsL := []) (rest := [(.ref a1)]) (rm_gw l Z a0 hw a1 (q3 * (1000 : Int64)) _ F76 F74) e71 pd___J rfl rfl (W := 1) (by show 2 * 0 + _ ≤ _; exact Nat.le_of_eq rfl) (hb hby dsw3_64) (by decide) (by decide) (by decide) (by decide)
  have F81 := Fr.app F72 Nq79
  have F82 := e80.trans eh79
  refine own_step (T' := T80) (g' := (mkF m 67 #[.val (.ref a1), .val (.long q2), .second, .val (.long q3), .second, .val (.int p4)] [(.long (q3 * (1000 : Int64))), (.ref a1)])) (fun _ kk => st80 _ kk) ?_
  refine own_step (T' := T80) (g' := (mkF m 69 #[.val (.ref a1), .val (.long q2), .second, .val (.long q3), .second, .val (.int p4)] [(.int p4), (.long (q3 * (1000 : Int64))), (.ref a1)])) (fun _ kk => XS.iload X80.here hx rfl (hb hby dsw3_67) rfl kk) ?_
  refine own_step (T' := T80) (g' := (mkF m 70 #[.val (.ref a1), .val (.long q2), .second, .val (.long q3), .second, .val (.int p4)] [(.long (p4.toInt64)), (.long (q3 * (1000 : Int64))), (.ref a1)])) (fun _ kk => XS.i2l X80.here hx rfl (hb hby dsw3_69) rfl kk) ?_
  refine own_step (T' := T80) (g' := (mkF m 71 #[.val (.ref a1), .val (.long q2), .second, .val (.long q3), .second, .val (.int p4)] [(.long ((q3 * (1000 : Int64)) / (p4.toInt64))), (.ref a1)])) (fun _ kk => XS.ldiv X80.here hx rfl (hb hby dsw3_70) rfl (own_kne c1) kk) ?_
  obtain ⟨u83, Fu83⟩ := F73.fld (w2 hw) (Or.inr (w52 hw) : Laid Z a0 "com/example/span60/span60/limit/SlidingWindow" "com/example/span60/span60/limit/SlidingWindow" "subWindowMillis" "J")
  obtain ⟨T83, h83, X83, e83, W83, st83⟩ := putF X80 hx hZ hown (host := "") (Or.inl (w51 hw)) Via.refl F82 Fu83 F73.1 (Or.inr ⟨(w52 hw), rfl, hnm⟩) (w2 hw) (ty := .long) (by decide) rfl rfl (g := (mkF m 71 #[.val (.ref a1), .val (.long q2), .second, .val (.long q3), .second, .val (.int p4)] [(.long ((q3 * (1000 : Int64)) / (p4.toInt64))), (.ref a1)])) rfl rfl (hb hby dsw3_71)
  have F84 := Fr.snoc X83 F81 g1
  have F85 := F73.wr W83
  have F86 := F74.other W83 (Or.inr (slot_ne (Or.inr (w32 hw) : Laid Z a0 "com/example/span60/span60/limit/SlidingWindow" "com/example/span60/span60/limit/WindowLimit" "windowMillis" "J") (Or.inr (w52 hw) : Laid Z a0 "com/example/span60/span60/limit/SlidingWindow" "com/example/span60/span60/limit/SlidingWindow" "subWindowMillis" "J") (by decide) (t := .long) (t' := .long) (by decide) (by decide)))
  have F87 := F75.other W83 (Or.inr (slot_ne (Or.inr (w42 hw) : Laid Z a0 "com/example/span60/span60/limit/SlidingWindow" "com/example/span60/span60/limit/SlidingWindow" "mostCounted" "J") (Or.inr (w52 hw) : Laid Z a0 "com/example/span60/span60/limit/SlidingWindow" "com/example/span60/span60/limit/SlidingWindow" "subWindowMillis" "J") (by decide) (t := .long) (t' := .long) (by decide) (by decide)))
  have F88 := F78.other W83 (Or.inr (slot_ne (Or.inr (w50 hw) : Laid Z a0 "com/example/span60/span60/limit/SlidingWindow" "com/example/span60/span60/limit/SlidingWindow" "subWindows" "I") (Or.inr (w52 hw) : Laid Z a0 "com/example/span60/span60/limit/SlidingWindow" "com/example/span60/span60/limit/SlidingWindow" "subWindowMillis" "J") (by decide) (t := .int) (t' := .long) (by decide) (by decide)))
  have F89 := F76.wr W83 g1
  have F90 := F77.wr W83 (Or.inl (List.mem_of_getElem? (i := 0) rfl))
  have F91 : Fld Z h83 a1 "com/example/span60/span60/limit/SlidingWindow" "subWindowMillis" "J" (.long ((q3 * (1000 : Int64)) / (p4.toInt64))) := Fu83.same W83
  refine own_step (T' := T83) (g' := (mkF m 74 #[.val (.ref a1), .val (.long q2), .second, .val (.long q3), .second, .val (.int p4)] [])) (fun _ kk => st83 _ kk) ?_
  refine own_step (T' := T83) (g' := (mkF m 75 #[.val (.ref a1), .val (.long q2), .second, .val (.long q3), .second, .val (.int p4)] [(.ref a1)])) (fun _ kk => XS.aloadN X83.here hx rfl (hb hby dsw3_74) rfl rfl kk) ?_
  refine own_step (T' := T83) (g' := (mkF m 77 #[.val (.ref a1), .val (.long q2), .second, .val (.long q3), .second, .val (.int p4)] [(.int p4), (.ref a1)])) (fun _ kk => XS.iload X83.here hx rfl (hb hby dsw3_75) rfl kk) ?_
  refine own_step (T' := T83) (g' := (mkF m 78 #[.val (.ref a1), .val (.long q2), .second, .val (.long q3), .second, .val (.int p4)] [(.int (1 : Int32)), (.int p4), (.ref a1)])) (fun _ kk => XS.iconst X83.here hx rfl (hb hby dsw3_77) kk) ?_
  by_cases c92 : p4 = (1 : Int32)
  · refine own_step (T' := T83) (g' := (mkF m 81 #[.val (.ref a1), .val (.long q2), .second, .val (.long q3), .second, .val (.int p4)] [(.ref a1)])) (fun _ kk => XS.icmpNo X83.here hx rfl (hb hby dsw3_78) rfl (teq c92).2 kk) ?_
    refine own_step (T' := T83) (g' := (mkF m 82 #[.val (.ref a1), .val (.long q2), .second, .val (.long q3), .second, .val (.int p4)] [(.ref a1), (.ref a1)])) (fun _ kk => XS.aloadN X83.here hx rfl (hb hby dsw3_81) rfl rfl kk) ?_
    obtain ⟨T93, X93, e93, st93⟩ := getF X83 hx hZ hown (host := "") (Or.inl (w51 hw)) Via.refl e83 F91 (g := (mkF m 82 #[.val (.ref a1), .val (.long q2), .second, .val (.long q3), .second, .val (.int p4)] [(.ref a1), (.ref a1)])) rfl rfl (hb hby dsw3_82)
    refine own_step (T' := T93) (g' := (mkF m 85 #[.val (.ref a1), .val (.long q2), .second, .val (.long q3), .second, .val (.int p4)] [(.long ((q3 * (1000 : Int64)) / (p4.toInt64))), (.ref a1)])) (fun _ kk => st93 _ kk) ?_
    refine own_step (T' := T93) (g' := (mkF m 94 #[.val (.ref a1), .val (.long q2), .second, .val (.long q3), .second, .val (.int p4)] [(.long ((q3 * (1000 : Int64)) / (p4.toInt64))), (.ref a1)])) (fun _ kk => XS.goto X93.here hx rfl (pc0 := 85) (pc' := 94) rfl (hb hby dsw3_85) (by decide) (by decide) kk) ?_
    obtain ⟨u94, Fu94⟩ := F85.fld (w2 hw) (Or.inr (w54 hw) : Laid Z a0 "com/example/span60/span60/limit/SlidingWindow" "com/example/span60/span60/limit/SlidingWindow" "oldestHeldMillis" "J")
    obtain ⟨T94, h94, X94, e94, W94, st94⟩ := putF X93 hx hZ hown (host := "") (Or.inl (w53 hw)) Via.refl e93 Fu94 F85.1 (Or.inr ⟨(w54 hw), rfl, hnm⟩) (w2 hw) (ty := .long) (by decide) rfl rfl (g := (mkF m 94 #[.val (.ref a1), .val (.long q2), .second, .val (.long q3), .second, .val (.int p4)] [(.long ((q3 * (1000 : Int64)) / (p4.toInt64))), (.ref a1)])) rfl rfl (hb hby dsw3_94)
    have F95 := Fr.snoc X94 F84 g1
    have F96 := F85.wr W94
    have F97 := F86.other W94 (Or.inr (slot_ne (Or.inr (w32 hw) : Laid Z a0 "com/example/span60/span60/limit/SlidingWindow" "com/example/span60/span60/limit/WindowLimit" "windowMillis" "J") (Or.inr (w54 hw) : Laid Z a0 "com/example/span60/span60/limit/SlidingWindow" "com/example/span60/span60/limit/SlidingWindow" "oldestHeldMillis" "J") (by decide) (t := .long) (t' := .long) (by decide) (by decide)))
    have F98 := F87.other W94 (Or.inr (slot_ne (Or.inr (w42 hw) : Laid Z a0 "com/example/span60/span60/limit/SlidingWindow" "com/example/span60/span60/limit/SlidingWindow" "mostCounted" "J") (Or.inr (w54 hw) : Laid Z a0 "com/example/span60/span60/limit/SlidingWindow" "com/example/span60/span60/limit/SlidingWindow" "oldestHeldMillis" "J") (by decide) (t := .long) (t' := .long) (by decide) (by decide)))
    have F99 := F88.other W94 (Or.inr (slot_ne (Or.inr (w50 hw) : Laid Z a0 "com/example/span60/span60/limit/SlidingWindow" "com/example/span60/span60/limit/SlidingWindow" "subWindows" "I") (Or.inr (w54 hw) : Laid Z a0 "com/example/span60/span60/limit/SlidingWindow" "com/example/span60/span60/limit/SlidingWindow" "oldestHeldMillis" "J") (by decide) (t := .int) (t' := .long) (by decide) (by decide)))
    have F100 := F91.other W94 (Or.inr (slot_ne (Or.inr (w52 hw) : Laid Z a0 "com/example/span60/span60/limit/SlidingWindow" "com/example/span60/span60/limit/SlidingWindow" "subWindowMillis" "J") (Or.inr (w54 hw) : Laid Z a0 "com/example/span60/span60/limit/SlidingWindow" "com/example/span60/span60/limit/SlidingWindow" "oldestHeldMillis" "J") (by decide) (t := .long) (t' := .long) (by decide) (by decide)))
    have F101 := F89.wr W94 g1
    have F102 := F90.wr W94 (Or.inl (List.mem_of_getElem? (i := 0) rfl))
    have F103 : Fld Z h94 a1 "com/example/span60/span60/limit/SlidingWindow" "oldestHeldMillis" "J" (.long ((q3 * (1000 : Int64)) / (p4.toInt64))) := Fu94.same W94
    refine own_step (T' := T94) (g' := (mkF m 97 #[.val (.ref a1), .val (.long q2), .second, .val (.long q3), .second, .val (.int p4)] [])) (fun _ kk => st94 _ kk) ?_
    exact own_retV X94 hx hlk hret (hb hby dsw3_97) e94 ⟨rfl, F95, F102, F96, F99⟩ (by decide) (by decide)
  · refine own_step (T' := T83) (g' := (mkF m 88 #[.val (.ref a1), .val (.long q2), .second, .val (.long q3), .second, .val (.int p4)] [(.ref a1)])) (fun _ kk => XS.icmpYes X83.here hx rfl (pc0 := 78) (pc' := 88) rfl (hb hby dsw3_78) rfl (feq c92).2 (by decide) (by decide) kk) ?_
    refine own_step (T' := T83) (g' := (mkF m 89 #[.val (.ref a1), .val (.long q2), .second, .val (.long q3), .second, .val (.int p4)] [(.ref a1), (.ref a1)])) (fun _ kk => XS.aloadN X83.here hx rfl (hb hby dsw3_88) rfl rfl kk) ?_
    obtain ⟨T104, X104, e104, st104⟩ := getF X83 hx hZ hown (host := "") (Or.inl (w51 hw)) Via.refl e83 F91 (g := (mkF m 89 #[.val (.ref a1), .val (.long q2), .second, .val (.long q3), .second, .val (.int p4)] [(.ref a1), (.ref a1)])) rfl rfl (hb hby dsw3_89)
    refine own_step (T' := T104) (g' := (mkF m 92 #[.val (.ref a1), .val (.long q2), .second, .val (.long q3), .second, .val (.int p4)] [(.long ((q3 * (1000 : Int64)) / (p4.toInt64))), (.ref a1)])) (fun _ kk => st104 _ kk) ?_
    refine own_step (T' := T104) (g' := (mkF m 93 #[.val (.ref a1), .val (.long q2), .second, .val (.long q3), .second, .val (.int p4)] [(.long (1 : Int64)), (.long ((q3 * (1000 : Int64)) / (p4.toInt64))), (.ref a1)])) (fun _ kk => XS.lconst X104.here hx rfl (hb hby dsw3_92) kk) ?_
    refine own_step (T' := T104) (g' := (mkF m 94 #[.val (.ref a1), .val (.long q2), .second, .val (.long q3), .second, .val (.int p4)] [(.long (((q3 * (1000 : Int64)) / (p4.toInt64)) - (1 : Int64))), (.ref a1)])) (fun _ kk => XS.lsub X104.here hx rfl (hb hby dsw3_93) rfl kk) ?_
    obtain ⟨u105, Fu105⟩ := F85.fld (w2 hw) (Or.inr (w54 hw) : Laid Z a0 "com/example/span60/span60/limit/SlidingWindow" "com/example/span60/span60/limit/SlidingWindow" "oldestHeldMillis" "J")
    obtain ⟨T105, h105, X105, e105, W105, st105⟩ := putF X104 hx hZ hown (host := "") (Or.inl (w53 hw)) Via.refl e104 Fu105 F85.1 (Or.inr ⟨(w54 hw), rfl, hnm⟩) (w2 hw) (ty := .long) (by decide) rfl rfl (g := (mkF m 94 #[.val (.ref a1), .val (.long q2), .second, .val (.long q3), .second, .val (.int p4)] [(.long (((q3 * (1000 : Int64)) / (p4.toInt64)) - (1 : Int64))), (.ref a1)])) rfl rfl (hb hby dsw3_94)
    have F106 := Fr.snoc X105 F84 g1
    have F107 := F85.wr W105
    have F108 := F86.other W105 (Or.inr (slot_ne (Or.inr (w32 hw) : Laid Z a0 "com/example/span60/span60/limit/SlidingWindow" "com/example/span60/span60/limit/WindowLimit" "windowMillis" "J") (Or.inr (w54 hw) : Laid Z a0 "com/example/span60/span60/limit/SlidingWindow" "com/example/span60/span60/limit/SlidingWindow" "oldestHeldMillis" "J") (by decide) (t := .long) (t' := .long) (by decide) (by decide)))
    have F109 := F87.other W105 (Or.inr (slot_ne (Or.inr (w42 hw) : Laid Z a0 "com/example/span60/span60/limit/SlidingWindow" "com/example/span60/span60/limit/SlidingWindow" "mostCounted" "J") (Or.inr (w54 hw) : Laid Z a0 "com/example/span60/span60/limit/SlidingWindow" "com/example/span60/span60/limit/SlidingWindow" "oldestHeldMillis" "J") (by decide) (t := .long) (t' := .long) (by decide) (by decide)))
    have F110 := F88.other W105 (Or.inr (slot_ne (Or.inr (w50 hw) : Laid Z a0 "com/example/span60/span60/limit/SlidingWindow" "com/example/span60/span60/limit/SlidingWindow" "subWindows" "I") (Or.inr (w54 hw) : Laid Z a0 "com/example/span60/span60/limit/SlidingWindow" "com/example/span60/span60/limit/SlidingWindow" "oldestHeldMillis" "J") (by decide) (t := .int) (t' := .long) (by decide) (by decide)))
    have F111 := F91.other W105 (Or.inr (slot_ne (Or.inr (w52 hw) : Laid Z a0 "com/example/span60/span60/limit/SlidingWindow" "com/example/span60/span60/limit/SlidingWindow" "subWindowMillis" "J") (Or.inr (w54 hw) : Laid Z a0 "com/example/span60/span60/limit/SlidingWindow" "com/example/span60/span60/limit/SlidingWindow" "oldestHeldMillis" "J") (by decide) (t := .long) (t' := .long) (by decide) (by decide)))
    have F112 := F89.wr W105 g1
    have F113 := F90.wr W105 (Or.inl (List.mem_of_getElem? (i := 0) rfl))
    have F114 : Fld Z h105 a1 "com/example/span60/span60/limit/SlidingWindow" "oldestHeldMillis" "J" (.long (((q3 * (1000 : Int64)) / (p4.toInt64)) - (1 : Int64))) := Fu105.same W105
    refine own_step (T' := T105) (g' := (mkF m 97 #[.val (.ref a1), .val (.long q2), .second, .val (.long q3), .second, .val (.int p4)] [])) (fun _ kk => st105 _ kk) ?_
    exact own_retV X105 hx hlk hret (hb hby dsw3_97) e105 ⟨rfl, F106, F113, F107, F110⟩ (by decide) (by decide)
theorem dsw2_0 : decode prog_33_method_1_code 0 = .ok (.aload_n 0, 1) := by decide +kernel
theorem dsw2_1 : decode prog_33_method_1_code 1 = .ok (.lload_n 1, 1) := by decide +kernel
theorem dsw2_2 : decode prog_33_method_1_code 2 = .ok (.lload_n 3, 1) := by decide +kernel
theorem dsw2_3 : decode prog_33_method_1_code 3 = .ok (.iconst 1, 1) := by decide +kernel
theorem dsw2_4 : decode prog_33_method_1_code 4 = .ok (.invokespecial 1, 3) := by decide +kernel
theorem dsw2_7 : decode prog_33_method_1_code 7 = .ok (.return_, 1) := by decide +kernel
set_option maxRecDepth 65536 in
set_option maxHeartbeats 40000000 in
theorem rm_sw2 (l : Launch) (Z : State) (a0 : Array Value) (hw : ∀ d ∈ tables_1, d.before a0 Z = true) (a1 : Addr) (q2 q3 : Int64) (h0 : Heap) (O0 : Old Z Z.heap.size h0) (O1 : own_Obj Z h0 a1 "com/example/span60/span60/limit/SlidingWindow") (g1 : Z.heap.size ≤ a1) (S1 : Sta Z Z.heap "com/example/span60/span60/limit/WindowLimit" "MAX_WINDOW_SECONDS" "J" (.long (9007199254740 : Int64))) (l1 : 1 ≤ q2.toInt) (l2 : q2.toInt ≤ 16777216) (k1 : 1 ≤ q3.toInt) (k2 : q3.toInt ≤ 102400) :
    own_Con l Z (⟨"com/example/span60/span60/limit/SlidingWindow", "<init>", "(JJ)V"⟩ : MethodName) prog_33_method_1_code 5 none ({ frames := 4, cells := 0, slots := 0, locals := 57 } : Room) #[(.ref a1), (.long q2), (.long q3)] h0 (fun v h L => v = none ∧ Fr Z.heap.size L ∧ Keep h0 h [a1] ∧ own_Obj Z h a1 "com/example/span60/span60/limit/SlidingWindow" ∧ Fld Z h a1 "com/example/span60/span60/limit/SlidingWindow" "subWindows" "I" (.int (1 : Int32))) := by
  refine own_con (ls := #[.val (.ref a1), .val (.long q2), .second, .val (.long q3), .second]) (pn_com_example_span60_span60_limit_SlidingWindow) (fun m => by first | (simp [entryFrame, mkF, argsToLocals, Value.category]; done) | rfl) ?_
  intro p e s m below meth c s₁ hx hby hml0 hown0 hnm0 hret0 hlk hZ X0 e0
  have hml : c.maxLocals = 5 := hml0
  have hown : s.vm.findClass "com/example/span60/span60/limit/SlidingWindow" = some m.cls := hown0
  have hnm : meth.name = "<init>" := hnm0
  have hret : meth.sig.returnType = none := hret0
  have F115 := Fr.nil Z.heap.size
  have F116 := Keep.refl h0 []
  have F117 := Keep.refl h0 [a1]
  refine own_step (T' := s₁) (g' := (mkF m 1 #[.val (.ref a1), .val (.long q2), .second, .val (.long q3), .second] [(.ref a1)])) (fun _ kk => XS.aloadN X0.here hx rfl (hb hby dsw2_0) rfl rfl kk) ?_
  refine own_step (T' := s₁) (g' := (mkF m 2 #[.val (.ref a1), .val (.long q2), .second, .val (.long q3), .second] [(.long q2), (.ref a1)])) (fun _ kk => XS.lloadN X0.here hx rfl (hb hby dsw2_1) rfl kk) ?_
  refine own_step (T' := s₁) (g' := (mkF m 3 #[.val (.ref a1), .val (.long q2), .second, .val (.long q3), .second] [(.long q3), (.long q2), (.ref a1)])) (fun _ kk => XS.lloadN X0.here hx rfl (hb hby dsw2_2) rfl kk) ?_
  refine own_step (T' := s₁) (g' := (mkF m 4 #[.val (.ref a1), .val (.long q2), .second, .val (.long q3), .second] [(.int (1 : Int32)), (.long q3), (.long q2), (.ref a1)])) (fun _ kk => XS.iconst X0.here hx rfl (hb hby dsw2_3) kk) ?_
  obtain ⟨T118, L118, _, h118, X118, e118, ⟨rfl, Nq, Kq, Oq, Fq⟩, st118⟩ := own_callC X0 hx hZ hown rfl (w7 hw) (w8 hw) (w9 hw) (w3 hw) (by decide) (a := a1) (g := (mkF m 4 #[.val (.ref a1), .val (.long q2), .second, .val (.long q3), .second] [(.int (1 : Int32)), (.long q3), (.long q2), (.ref a1)])) rfl (by rw [hml]; rfl) (argsL := [(.long q2), (.long q3), (.int (1 : Int32))]) (rest := []) (rm_sw3 l Z a0 hw a1 q2 q3 (1 : Int32) _ O0 O1 g1 S1 l1 l2 k1 k2 (by decide) (by decide) (by rw [show (1 : Int32).toInt = 1 by decide]; omega)) e0 pd__JJI_V rfl rfl (W := 0) (by show 2 * 0 + _ ≤ _; exact Nat.le_of_eq rfl) (hb hby dsw2_4) (by decide) (by decide) (by decide) (by decide)
  have F119 := Fr.app F115 Nq
  have F120 := O1.keep Kq
  have F121 := O0.keep Kq (allS g1 all0)
  have F122 := F117.trans Kq (allS (Or.inl (List.mem_of_getElem? (i := 0) rfl)) all0)
  refine own_step (T' := T118) (g' := (mkF m 7 #[.val (.ref a1), .val (.long q2), .second, .val (.long q3), .second] [])) (fun _ kk => st118 _ kk) ?_
  exact own_retV X118 hx hlk hret (hb hby dsw2_7) e118 ⟨rfl, F119, F122, Oq, Fq⟩ (by decide) (by decide)
theorem dsti_0 : decode prog_34_method_1_code 0 = .ok (.aload_n 0, 1) := by decide +kernel
theorem dsti_1 : decode prog_34_method_1_code 1 = .ok (.invokespecial 1, 3) := by decide +kernel
theorem dsti_4 : decode prog_34_method_1_code 4 = .ok (.aload_n 0, 1) := by decide +kernel
theorem dsti_5 : decode prog_34_method_1_code 5 = .ok (.aload_n 1, 1) := by decide +kernel
theorem dsti_6 : decode prog_34_method_1_code 6 = .ok (.putfield 7, 3) := by decide +kernel
theorem dsti_9 : decode prog_34_method_1_code 9 = .ok (.aload_n 0, 1) := by decide +kernel
theorem dsti_10 : decode prog_34_method_1_code 10 = .ok (.lload_n 2, 1) := by decide +kernel
theorem dsti_11 : decode prog_34_method_1_code 11 = .ok (.putfield 13, 3) := by decide +kernel
theorem dsti_14 : decode prog_34_method_1_code 14 = .ok (.return_, 1) := by decide +kernel
set_option maxRecDepth 65536 in
set_option maxHeartbeats 40000000 in
theorem rm_sti (l : Launch) (Z : State) (a0 : Array Value) (hw : ∀ d ∈ tables_1, d.before a0 Z = true) (a1 b2 : Addr) (q3 : Int64) (h0 : Heap) (O0 : Old Z Z.heap.size h0) (O1 : own_Obj Z h0 a1 "com/example/span60/span60/limit/SlidingWindow$State") (g1 : Z.heap.size ≤ a1) :
    own_Con l Z (⟨"com/example/span60/span60/limit/SlidingWindow$State", "<init>", "([JJ)V"⟩ : MethodName) prog_34_method_1_code 4 none ({ frames := 2, cells := 0, slots := 0, locals := 24 } : Room) #[(.ref a1), (.ref b2), (.long q3)] h0 (fun v h L => v = none ∧ Fr Z.heap.size L ∧ Keep h0 h [a1] ∧ own_Obj Z h a1 "com/example/span60/span60/limit/SlidingWindow$State" ∧ Fld Z h a1 "com/example/span60/span60/limit/SlidingWindow$State" "counts" "[J" (.ref b2)) := by
  refine own_con (ls := #[.val (.ref a1), .val (.ref b2), .val (.long q3), .second]) (pn_com_example_span60_span60_limit_SlidingWindow_State) (fun m => by first | (simp [entryFrame, mkF, argsToLocals, Value.category]; done) | rfl) ?_
  intro p e s m below meth c s₁ hx hby hml0 hown0 hnm0 hret0 hlk hZ X0 e0
  have hml : c.maxLocals = 4 := hml0
  have hown : s.vm.findClass "com/example/span60/span60/limit/SlidingWindow$State" = some m.cls := hown0
  have hnm : meth.name = "<init>" := hnm0
  have hret : meth.sig.returnType = none := hret0
  have F123 := Fr.nil Z.heap.size
  have F124 := Keep.refl h0 []
  have F125 := Keep.refl h0 [a1]
  refine own_step (T' := s₁) (g' := (mkF m 1 #[.val (.ref a1), .val (.ref b2), .val (.long q3), .second] [(.ref a1)])) (fun _ kk => XS.aloadN X0.here hx rfl (hb hby dsti_0) rfl rfl kk) ?_
  obtain ⟨T127, L127, _, h127, X127, e127, ⟨rfl, Nq126, eh126⟩, st127⟩ := own_callC X0 hx hZ hown rfl (w62 hw) (w63 hw) (w66 hw) (w65 hw) (by decide) (a := a1) (g := (mkF m 1 #[.val (.ref a1), .val (.ref b2), .val (.long q3), .second] [(.ref a1)])) rfl (by rw [hml]; rfl) (argsL := []) (rest := []) (rm_asb l Z a0 hw a1 _ O0) e0 pd___V rfl rfl (W := 0) (by show 2 * 0 + _ ≤ _; exact Nat.le_of_eq rfl) (hb hby dsti_1) (by decide) (by decide) (by decide) (by decide)
  have F128 := Fr.app F123 Nq126
  have F129 := e127.trans eh126
  refine own_step (T' := T127) (g' := (mkF m 4 #[.val (.ref a1), .val (.ref b2), .val (.long q3), .second] [])) (fun _ kk => st127 _ kk) ?_
  refine own_step (T' := T127) (g' := (mkF m 5 #[.val (.ref a1), .val (.ref b2), .val (.long q3), .second] [(.ref a1)])) (fun _ kk => XS.aloadN X127.here hx rfl (hb hby dsti_4) rfl rfl kk) ?_
  refine own_step (T' := T127) (g' := (mkF m 6 #[.val (.ref a1), .val (.ref b2), .val (.long q3), .second] [(.ref b2), (.ref a1)])) (fun _ kk => XS.aloadN X127.here hx rfl (hb hby dsti_5) rfl rfl kk) ?_
  obtain ⟨u130, Fu130⟩ := O1.fld (w56 hw) (Or.inr (w69 hw) : Laid Z a0 "com/example/span60/span60/limit/SlidingWindow$State" "com/example/span60/span60/limit/SlidingWindow$State" "counts" "[J")
  obtain ⟨T130, h130, X130, e130, W130, st130⟩ := putF X127 hx hZ hown (host := "") (Or.inl (w68 hw)) Via.refl F129 Fu130 O1.1 (Or.inr ⟨(w69 hw), rfl, hnm⟩) (w56 hw) (ty := (.array .long)) (by decide) rfl rfl (g := (mkF m 6 #[.val (.ref a1), .val (.ref b2), .val (.long q3), .second] [(.ref b2), (.ref a1)])) rfl rfl (hb hby dsti_6)
  have F131 := Fr.snoc X130 F128 g1
  have F132 := O1.wr W130
  have F133 := O0.wr W130 g1
  have F134 := F125.wr W130 (Or.inl (List.mem_of_getElem? (i := 0) rfl))
  have F135 : Fld Z h130 a1 "com/example/span60/span60/limit/SlidingWindow$State" "counts" "[J" (.ref b2) := Fu130.same W130
  refine own_step (T' := T130) (g' := (mkF m 9 #[.val (.ref a1), .val (.ref b2), .val (.long q3), .second] [])) (fun _ kk => st130 _ kk) ?_
  refine own_step (T' := T130) (g' := (mkF m 10 #[.val (.ref a1), .val (.ref b2), .val (.long q3), .second] [(.ref a1)])) (fun _ kk => XS.aloadN X130.here hx rfl (hb hby dsti_9) rfl rfl kk) ?_
  refine own_step (T' := T130) (g' := (mkF m 11 #[.val (.ref a1), .val (.ref b2), .val (.long q3), .second] [(.long q3), (.ref a1)])) (fun _ kk => XS.lloadN X130.here hx rfl (hb hby dsti_10) rfl kk) ?_
  obtain ⟨u136, Fu136⟩ := F132.fld (w56 hw) (Or.inl (w71 hw) : Laid Z a0 "com/example/span60/span60/limit/SlidingWindow$State" "com/example/span60/span60/limit/SlidingWindow$State" "at" "J")
  obtain ⟨T136, h136, X136, e136, W136, st136⟩ := putF X130 hx hZ hown (host := "") (Or.inl (w70 hw)) Via.refl e130 Fu136 F132.1 (Or.inl (w71 hw)) (w56 hw) (ty := .long) (by decide) rfl rfl (g := (mkF m 11 #[.val (.ref a1), .val (.ref b2), .val (.long q3), .second] [(.long q3), (.ref a1)])) rfl rfl (hb hby dsti_11)
  have F137 := Fr.snoc X136 F131 g1
  have F138 := F132.wr W136
  have F139 := F135.other W136 (Or.inr (slot_ne (Or.inr (w69 hw) : Laid Z a0 "com/example/span60/span60/limit/SlidingWindow$State" "com/example/span60/span60/limit/SlidingWindow$State" "counts" "[J") (Or.inl (w71 hw) : Laid Z a0 "com/example/span60/span60/limit/SlidingWindow$State" "com/example/span60/span60/limit/SlidingWindow$State" "at" "J") (by decide) (t := (.array .long)) (t' := .long) (by decide) (by decide)))
  have F140 := F133.wr W136 g1
  have F141 := F134.wr W136 (Or.inl (List.mem_of_getElem? (i := 0) rfl))
  have F142 : Fld Z h136 a1 "com/example/span60/span60/limit/SlidingWindow$State" "at" "J" (.long q3) := Fu136.same W136
  refine own_step (T' := T136) (g' := (mkF m 14 #[.val (.ref a1), .val (.ref b2), .val (.long q3), .second] [])) (fun _ kk => st136 _ kk) ?_
  exact own_retV X136 hx hlk hret (hb hby dsti_14) e136 ⟨rfl, F137, F141, F138, F139⟩ (by decide) (by decide)
theorem dns_0 : decode prog_33_method_6_code 0 = .ok (.new 50, 3) := by decide +kernel
theorem dns_3 : decode prog_33_method_6_code 3 = .ok (.dup, 1) := by decide +kernel
theorem dns_4 : decode prog_33_method_6_code 4 = .ok (.aload_n 0, 1) := by decide +kernel
theorem dns_5 : decode prog_33_method_6_code 5 = .ok (.getfield 37, 3) := by decide +kernel
theorem dns_8 : decode prog_33_method_6_code 8 = .ok (.iconst 1, 1) := by decide +kernel
theorem dns_9 : decode prog_33_method_6_code 9 = .ok (.iadd, 1) := by decide +kernel
theorem dns_10 : decode prog_33_method_6_code 10 = .ok (.newarray .long, 2) := by decide +kernel
theorem dns_12 : decode prog_33_method_6_code 12 = .ok (.lload_n 1, 1) := by decide +kernel
theorem dns_13 : decode prog_33_method_6_code 13 = .ok (.invokespecial 52, 3) := by decide +kernel
theorem dns_16 : decode prog_33_method_6_code 16 = .ok (.areturn, 1) := by decide +kernel
set_option maxRecDepth 65536 in
set_option maxHeartbeats 40000000 in
theorem rm_ns (l : Launch) (Z : State) (a0 : Array Value) (hw : ∀ d ∈ tables_1, d.before a0 Z = true) (a1 : Addr) (k2 : Int32) (q3 : Int64) (h0 : Heap) (O0 : Old Z Z.heap.size h0) (O1 : own_Obj Z h0 a1 "com/example/span60/span60/limit/SlidingWindow") (F1 : Fld Z h0 a1 "com/example/span60/span60/limit/SlidingWindow" "subWindows" "I" (.int k2)) (c1 : 1 ≤ k2.toInt) (c2 : k2.toInt ≤ 100) :
    own_Con l Z (⟨"com/example/span60/span60/limit/SlidingWindow", "newState", "(J)Lcom/example/span60/span60/limit/SlidingWindow$State;"⟩ : MethodName) prog_33_method_6_code 3 (some (.object "com/example/span60/span60/limit/SlidingWindow$State")) ({ frames := 3, cells := 2, slots := 131, locals := 40 } : Room) #[(.ref a1), (.long q3)] h0 (fun v h L => ∃ a, v = some (.ref a) ∧ Fr Z.heap.size L ∧ Keep h0 h [] ∧ own_Obj Z h a "com/example/span60/span60/limit/SlidingWindow$State" ∧ ∃ b cA, Fld Z h a "com/example/span60/span60/limit/SlidingWindow$State" "counts" "[J" (.ref b) ∧ Arv Z h b cA .long (k2 + (1 : Int32)) [] (.long 0)) := by
  refine own_con (ls := #[.val (.ref a1), .val (.long q3), .second]) (pn_com_example_span60_span60_limit_SlidingWindow) (fun m => by first | (simp [entryFrame, mkF, argsToLocals, Value.category]; done) | rfl) ?_
  intro p e s m below meth c s₁ hx hby hml0 hown0 hnm0 hret0 hlk hZ X0 e0
  have hml : c.maxLocals = 3 := hml0
  have hown : s.vm.findClass "com/example/span60/span60/limit/SlidingWindow" = some m.cls := hown0
  have hnm : meth.name = "newState" := hnm0
  have hret : meth.sig.returnType = (some (.object "com/example/span60/span60/limit/SlidingWindow$State")) := hret0
  have F143 := Fr.nil Z.heap.size
  have F144 := Keep.refl h0 []
  obtain ⟨T146, h146, X146, e146, E146, A146, D146, U146, st146⟩ := newO X0 hx hZ hown (w77 hw) (w56 hw) (w57 hw) e0 (g := (mkF m 0 #[.val (.ref a1), .val (.long q3), .second] [])) rfl (hb hby dns_0) (by decide) (by decide)
  obtain ⟨a145, g146⟩ : ∃ z, z = h0.size := ⟨_, rfl⟩
  rw [← g146] at A146 D146 U146 st146
  have ne147 : a1 ≠ a145 := Nat.ne_of_lt (by rw [g146]; exact O1.lt)
  have ge148 : Z.heap.size ≤ a145 := by rw [g146]; exact O0.2.1
  have ng149 : h0.size ≤ a145 := by rw [g146]; exact F144.1
  have F150 := O1.ext E146
  have F151 := F1.ext E146
  have F152 := O0.ext E146
  have F153 := F144.ext E146
  have F154 : own_Obj Z h146 a145 "com/example/span60/span60/limit/SlidingWindow$State" := own_Obj.new A146 U146
  refine own_step (T' := T146) (g' := (mkF m 3 #[.val (.ref a1), .val (.long q3), .second] [(.ref a145)])) (fun _ kk => st146 _ kk) ?_
  refine own_step (T' := T146) (g' := (mkF m 4 #[.val (.ref a1), .val (.long q3), .second] [(.ref a145), (.ref a145)])) (fun _ kk => XS.dup X146.here hx rfl (hb hby dns_3) rfl rfl kk) ?_
  refine own_step (T' := T146) (g' := (mkF m 5 #[.val (.ref a1), .val (.long q3), .second] [(.ref a1), (.ref a145), (.ref a145)])) (fun _ kk => XS.aloadN X146.here hx rfl (hb hby dns_4) rfl rfl kk) ?_
  obtain ⟨T155, X155, e155, st155⟩ := getF X146 hx hZ hown (host := "") (Or.inl (w49 hw)) Via.refl e146 F151 (g := (mkF m 5 #[.val (.ref a1), .val (.long q3), .second] [(.ref a1), (.ref a145), (.ref a145)])) rfl rfl (hb hby dns_5)
  refine own_step (T' := T155) (g' := (mkF m 8 #[.val (.ref a1), .val (.long q3), .second] [(.int k2), (.ref a145), (.ref a145)])) (fun _ kk => st155 _ kk) ?_
  refine own_step (T' := T155) (g' := (mkF m 9 #[.val (.ref a1), .val (.long q3), .second] [(.int (1 : Int32)), (.int k2), (.ref a145), (.ref a145)])) (fun _ kk => XS.iconst X155.here hx rfl (hb hby dns_8) kk) ?_
  refine own_step (T' := T155) (g' := (mkF m 10 #[.val (.ref a1), .val (.long q3), .second] [(.int (k2 + (1 : Int32))), (.ref a145), (.ref a145)])) (fun _ kk => XS.iadd X155.here hx rfl (hb hby dns_9) rfl kk) ?_
  obtain ⟨T157, h157, cA157, X157, e157, E157, A157, st157⟩ := newP X155 hx hZ (aty := .long) (w58 hw) e155 (g := (mkF m 10 #[.val (.ref a1), .val (.long q3), .second] [(.int (k2 + (1 : Int32))), (.ref a145), (.ref a145)])) rfl (hb hby dns_10) rfl (own_nneg (own_up1 c1 c2).1) (cap := 127) (own_cap (own_up1 c1 c2).2) (by decide) (by decide) (by decide)
  obtain ⟨a156, g157⟩ : ∃ z, z = h146.size := ⟨_, rfl⟩
  rw [← g157] at A157 st157
  have ne158 : a1 ≠ a156 := Nat.ne_of_lt (by rw [g157]; exact F150.lt)
  have ne159 : a145 ≠ a156 := Nat.ne_of_lt (by rw [g157]; exact F154.lt)
  have ge160 : Z.heap.size ≤ a156 := by rw [g157]; exact F152.2.1
  have ng161 : h0.size ≤ a156 := by rw [g157]; exact F153.1
  have F162 := F150.ext E157
  have F163 := F151.ext E157
  have F164 := F154.ext E157
  have F165 := F152.ext E157
  have F166 := F153.ext E157
  have F167 : Arv Z h157 a156 cA157 .long (k2 + (1 : Int32)) [] (.long 0) := Arv.new A157 (own_nneg (own_up1 c1 c2).1)
  refine own_step (T' := T157) (g' := (mkF m 12 #[.val (.ref a1), .val (.long q3), .second] [(.ref a156), (.ref a145), (.ref a145)])) (fun _ kk => st157 _ kk) ?_
  refine own_step (T' := T157) (g' := (mkF m 13 #[.val (.ref a1), .val (.long q3), .second] [(.long q3), (.ref a156), (.ref a145), (.ref a145)])) (fun _ kk => XS.lloadN X157.here hx rfl (hb hby dns_12) rfl kk) ?_
  obtain ⟨T168, L168, _, h168, X168, e168, ⟨rfl, Nqa145, Kqa145, Oqa145, Fqa145⟩, st168⟩ := own_callC X157 hx hZ hown rfl (w90 hw) (w60 hw) (w61 hw) (w57 hw) (by decide) (a := a145) (g := (mkF m 13 #[.val (.ref a1), .val (.long q3), .second] [(.long q3), (.ref a156), (.ref a145), (.ref a145)])) rfl (by rw [hml]; rfl) (argsL := [(.ref a156), (.long q3)]) (rest := [(.ref a145)]) (rm_sti l Z a0 hw a145 a156 q3 _ F165 F164 ge148) e157 pd___JJ_V rfl rfl (W := 1) (by show 2 * 0 + _ ≤ _; exact Nat.le_of_eq rfl) (hb hby dns_13) (by decide) (by decide) (by decide) (by decide)
  have F169 := Fr.app F143 Nqa145
  have F170 := F162.keep Kqa145
  have F171 := F163.keep Kqa145 (ninS ne147 nin0)
  have F172 := F164.keep Kqa145
  have F173 := F167.keep Kqa145 (ninS (Ne.symm ne159) nin0)
  have F174 := F165.keep Kqa145 (allS ge148 all0)
  have F175 := F166.trans Kqa145 (allS (Or.inr ng149) all0)
  refine own_step (T' := T168) (g' := (mkF m 16 #[.val (.ref a1), .val (.long q3), .second] [(.ref a145)])) (fun _ kk => st168 _ kk) ?_
  exact own_retA X168 hx hlk (t := (.object "com/example/span60/span60/limit/SlidingWindow$State")) hret rfl rfl rfl (hb hby dns_16) e168 ⟨_, rfl, F169, F175, F172, _, _, Fqa145, F173⟩ (by decide) (by decide)
theorem dsp_0 : decode prog_33_method_2_code 0 = .ok (.iload 4, 2) := by decide +kernel
theorem dsp_2 : decode prog_33_method_2_code 2 = .ok (.iconst 2, 1) := by decide +kernel
theorem dsp_3 : decode prog_33_method_2_code 3 = .ok (.if_icmp .lt 10, 3) := by decide +kernel
theorem dsp_6 : decode prog_33_method_2_code 6 = .ok (.iload 4, 2) := by decide +kernel
theorem dsp_8 : decode prog_33_method_2_code 8 = .ok (.bipush 100, 2) := by decide +kernel
theorem dsp_10 : decode prog_33_method_2_code 10 = .ok (.if_icmp .le 13, 3) := by decide +kernel
theorem dsp_13 : decode prog_33_method_2_code 13 = .ok (.new 7, 3) := by decide +kernel
theorem dsp_16 : decode prog_33_method_2_code 16 = .ok (.dup, 1) := by decide +kernel
theorem dsp_17 : decode prog_33_method_2_code 17 = .ok (.ldc 9, 2) := by decide +kernel
theorem dsp_19 : decode prog_33_method_2_code 19 = .ok (.invokespecial 11, 3) := by decide +kernel
theorem dsp_22 : decode prog_33_method_2_code 22 = .ok (.athrow, 1) := by decide +kernel
theorem dsp_23 : decode prog_33_method_2_code 23 = .ok (.new 2, 3) := by decide +kernel
theorem dsp_26 : decode prog_33_method_2_code 26 = .ok (.dup, 1) := by decide +kernel
theorem dsp_27 : decode prog_33_method_2_code 27 = .ok (.lload_n 0, 1) := by decide +kernel
theorem dsp_28 : decode prog_33_method_2_code 28 = .ok (.lload_n 2, 1) := by decide +kernel
theorem dsp_29 : decode prog_33_method_2_code 29 = .ok (.iload 4, 2) := by decide +kernel
theorem dsp_31 : decode prog_33_method_2_code 31 = .ok (.invokespecial 1, 3) := by decide +kernel
theorem dsp_34 : decode prog_33_method_2_code 34 = .ok (.areturn, 1) := by decide +kernel
set_option maxRecDepth 65536 in
set_option maxHeartbeats 40000000 in
theorem rm_sp (l : Launch) (Z : State) (a0 : Array Value) (hw : ∀ d ∈ tables_1, d.before a0 Z = true) (q2 q3 : Int64) (p4 : Int32) (h0 : Heap) (O0 : Old Z Z.heap.size h0) (S1 : Sta Z Z.heap "com/example/span60/span60/limit/WindowLimit" "MAX_WINDOW_SECONDS" "J" (.long (9007199254740 : Int64))) (l1 : 1 ≤ q2.toInt) (l2 : q2.toInt ≤ 16777216) (k1 : 1 ≤ q3.toInt) (k2 : q3.toInt ≤ 102400) (c0 : 2 ≤ p4.toInt) (c2 : p4.toInt ≤ 100) (c3 : q3.toInt % p4.toInt = 0) :
    own_Con l Z (⟨"com/example/span60/span60/limit/SlidingWindow", "split", "(JJI)Lcom/example/span60/span60/limit/SlidingWindow;"⟩ : MethodName) prog_33_method_2_code 5 (some (.object "com/example/span60/span60/limit/SlidingWindow")) ({ frames := 4, cells := 1, slots := 7, locals := 58 } : Room) #[(.long q2), (.long q3), (.int p4)] h0 (fun v h L => ∃ a, v = some (.ref a) ∧ Fr Z.heap.size L ∧ Keep h0 h [] ∧ own_Obj Z h a "com/example/span60/span60/limit/SlidingWindow" ∧ Fld Z h a "com/example/span60/span60/limit/SlidingWindow" "subWindows" "I" (.int p4)) := by
  refine own_con (ls := #[.val (.long q2), .second, .val (.long q3), .second, .val (.int p4)]) (pn_com_example_span60_span60_limit_SlidingWindow) (fun m => by first | (simp [entryFrame, mkF, argsToLocals, Value.category]; done) | rfl) ?_
  intro p e s m below meth c s₁ hx hby hml0 hown0 hnm0 hret0 hlk hZ X0 e0
  have hml : c.maxLocals = 5 := hml0
  have hown : s.vm.findClass "com/example/span60/span60/limit/SlidingWindow" = some m.cls := hown0
  have hnm : meth.name = "split" := hnm0
  have hret : meth.sig.returnType = (some (.object "com/example/span60/span60/limit/SlidingWindow")) := hret0
  have F176 := Fr.nil Z.heap.size
  have F177 := Keep.refl h0 []
  refine own_step (T' := s₁) (g' := (mkF m 2 #[.val (.long q2), .second, .val (.long q3), .second, .val (.int p4)] [(.int p4)])) (fun _ kk => XS.iload X0.here hx rfl (hb hby dsp_0) rfl kk) ?_
  refine own_step (T' := s₁) (g' := (mkF m 3 #[.val (.long q2), .second, .val (.long q3), .second, .val (.int p4)] [(.int (2 : Int32)), (.int p4)])) (fun _ kk => XS.iconst X0.here hx rfl (hb hby dsp_2) kk) ?_
  refine own_step (T' := s₁) (g' := (mkF m 6 #[.val (.long q2), .second, .val (.long q3), .second, .val (.int p4)] [])) (fun _ kk => XS.icmpNo X0.here hx rfl (hb hby dsp_3) rfl (flt (own_nlt (by show (2 : Int32).toInt ≤ _; exact c0))).1 kk) ?_
  refine own_step (T' := s₁) (g' := (mkF m 8 #[.val (.long q2), .second, .val (.long q3), .second, .val (.int p4)] [(.int p4)])) (fun _ kk => XS.iload X0.here hx rfl (hb hby dsp_6) rfl kk) ?_
  refine own_step (T' := s₁) (g' := (mkF m 10 #[.val (.long q2), .second, .val (.long q3), .second, .val (.int p4)] [(.int (100 : Int32)), (.int p4)])) (fun _ kk => XS.bipush X0.here hx rfl (hb hby dsp_8) kk) ?_
  refine own_step (T' := s₁) (g' := (mkF m 23 #[.val (.long q2), .second, .val (.long q3), .second, .val (.int p4)] [])) (fun _ kk => XS.icmpYes X0.here hx rfl (pc0 := 10) (pc' := 23) rfl (hb hby dsp_10) rfl (flt (own_nlt (by show _ ≤ (100 : Int32).toInt; exact c2))).2.2.2 (by decide) (by decide) kk) ?_
  obtain ⟨T179, h179, X179, e179, E179, A179, D179, U179, st179⟩ := newO X0 hx hZ hown (w84 hw) (w2 hw) (w3 hw) e0 (g := (mkF m 23 #[.val (.long q2), .second, .val (.long q3), .second, .val (.int p4)] [])) rfl (hb hby dsp_23) (by decide) (by decide)
  obtain ⟨a178, g179⟩ : ∃ z, z = h0.size := ⟨_, rfl⟩
  rw [← g179] at A179 D179 U179 st179
  have ge180 : Z.heap.size ≤ a178 := by rw [g179]; exact O0.2.1
  have ng181 : h0.size ≤ a178 := by rw [g179]; exact F177.1
  have F182 := O0.ext E179
  have F183 := F177.ext E179
  have F184 : own_Obj Z h179 a178 "com/example/span60/span60/limit/SlidingWindow" := own_Obj.new A179 U179
  refine own_step (T' := T179) (g' := (mkF m 26 #[.val (.long q2), .second, .val (.long q3), .second, .val (.int p4)] [(.ref a178)])) (fun _ kk => st179 _ kk) ?_
  refine own_step (T' := T179) (g' := (mkF m 27 #[.val (.long q2), .second, .val (.long q3), .second, .val (.int p4)] [(.ref a178), (.ref a178)])) (fun _ kk => XS.dup X179.here hx rfl (hb hby dsp_26) rfl rfl kk) ?_
  refine own_step (T' := T179) (g' := (mkF m 28 #[.val (.long q2), .second, .val (.long q3), .second, .val (.int p4)] [(.long q2), (.ref a178), (.ref a178)])) (fun _ kk => XS.lloadN X179.here hx rfl (hb hby dsp_27) rfl kk) ?_
  refine own_step (T' := T179) (g' := (mkF m 29 #[.val (.long q2), .second, .val (.long q3), .second, .val (.int p4)] [(.long q3), (.long q2), (.ref a178), (.ref a178)])) (fun _ kk => XS.lloadN X179.here hx rfl (hb hby dsp_28) rfl kk) ?_
  refine own_step (T' := T179) (g' := (mkF m 31 #[.val (.long q2), .second, .val (.long q3), .second, .val (.int p4)] [(.int p4), (.long q3), (.long q2), (.ref a178), (.ref a178)])) (fun _ kk => XS.iload X179.here hx rfl (hb hby dsp_29) rfl kk) ?_
  obtain ⟨T185, L185, _, h185, X185, e185, ⟨rfl, Nq, Kq, Oq, Fq⟩, st185⟩ := own_callC X179 hx hZ hown rfl (w7 hw) (w8 hw) (w9 hw) (w3 hw) (by decide) (a := a178) (g := (mkF m 31 #[.val (.long q2), .second, .val (.long q3), .second, .val (.int p4)] [(.int p4), (.long q3), (.long q2), (.ref a178), (.ref a178)])) rfl (by rw [hml]; rfl) (argsL := [(.long q2), (.long q3), (.int p4)]) (rest := [(.ref a178)]) (rm_sw3 l Z a0 hw a178 q2 q3 p4 _ F182 F184 ge180 S1 l1 l2 k1 k2 (by omega) c2 c3) e179 pd__JJI_V rfl rfl (W := 1) (by show 2 * 0 + _ ≤ _; exact Nat.le_of_eq rfl) (hb hby dsp_31) (by decide) (by decide) (by decide) (by decide)
  have F186 := Fr.app F176 Nq
  have F187 := F184.keep Kq
  have F188 := F182.keep Kq (allS ge180 all0)
  have F189 := F183.trans Kq (allS (Or.inr ng181) all0)
  refine own_step (T' := T185) (g' := (mkF m 34 #[.val (.long q2), .second, .val (.long q3), .second, .val (.int p4)] [(.ref a178)])) (fun _ kk => st185 _ kk) ?_
  exact own_retA X185 hx hlk (t := (.object "com/example/span60/span60/limit/SlidingWindow")) hret rfl rfl rfl (hb hby dsp_34) e185 ⟨_, rfl, F186, F189, Oq, Fq⟩ (by decide) (by decide)
theorem dk0_0 : decode prog_33_method_7_code 0 = .ok (.aload_n 1, 1) := by decide +kernel
theorem dk0_1 : decode prog_33_method_7_code 1 = .ok (.instanceof 50, 3) := by decide +kernel
theorem dk0_4 : decode prog_33_method_7_code 4 = .ok (.ifCond .eq 24, 3) := by decide +kernel
theorem dk0_7 : decode prog_33_method_7_code 7 = .ok (.aload_n 1, 1) := by decide +kernel
theorem dk0_8 : decode prog_33_method_7_code 8 = .ok (.checkcast 50, 3) := by decide +kernel
theorem dk0_11 : decode prog_33_method_7_code 11 = .ok (.getfield 55, 3) := by decide +kernel
theorem dk0_14 : decode prog_33_method_7_code 14 = .ok (.arraylength, 1) := by decide +kernel
theorem dk0_15 : decode prog_33_method_7_code 15 = .ok (.aload_n 0, 1) := by decide +kernel
theorem dk0_16 : decode prog_33_method_7_code 16 = .ok (.getfield 37, 3) := by decide +kernel
theorem dk0_19 : decode prog_33_method_7_code 19 = .ok (.iconst 1, 1) := by decide +kernel
theorem dk0_20 : decode prog_33_method_7_code 20 = .ok (.iadd, 1) := by decide +kernel
theorem dk0_21 : decode prog_33_method_7_code 21 = .ok (.if_icmp .ne 7, 3) := by decide +kernel
theorem dk0_24 : decode prog_33_method_7_code 24 = .ok (.iconst 1, 1) := by decide +kernel
theorem dk0_25 : decode prog_33_method_7_code 25 = .ok (.goto 4, 3) := by decide +kernel
theorem dk0_28 : decode prog_33_method_7_code 28 = .ok (.iconst 0, 1) := by decide +kernel
theorem dk0_29 : decode prog_33_method_7_code 29 = .ok (.ireturn, 1) := by decide +kernel
set_option maxRecDepth 65536 in
set_option maxHeartbeats 40000000 in
theorem rm_k0 (l : Launch) (Z : State) (a0 : Array Value) (hw : ∀ d ∈ tables_1, d.before a0 Z = true) (a1 : Addr) (h0 : Heap) (O0 : Old Z Z.heap.size h0)  :
    own_Con l Z (⟨"com/example/span60/span60/limit/SlidingWindow", "keeps", "(Lcom/example/span60/span60/limit/Algorithm$State;)Z"⟩ : MethodName) prog_33_method_7_code 2 (some .boolean) ({ frames := 0, cells := 0, slots := 0, locals := 0 } : Room) #[(.ref a1), .null] h0 (fun v h L => v = some (.int (0 : Int32)) ∧ Fr Z.heap.size L ∧ h = h0) := by
  refine own_con (ls := #[.val (.ref a1), .val .null]) (pn_com_example_span60_span60_limit_SlidingWindow) (fun m => by first | (simp [entryFrame, mkF, argsToLocals, Value.category]; done) | rfl) ?_
  intro p e s m below meth c s₁ hx hby hml0 hown0 hnm0 hret0 hlk hZ X0 e0
  have hml : c.maxLocals = 2 := hml0
  have hown : s.vm.findClass "com/example/span60/span60/limit/SlidingWindow" = some m.cls := hown0
  have hnm : meth.name = "keeps" := hnm0
  have hret : meth.sig.returnType = (some .boolean) := hret0
  have F190 := Fr.nil Z.heap.size
  have F191 := Keep.refl h0 []
  refine own_step (T' := s₁) (g' := (mkF m 1 #[.val (.ref a1), .val .null] [.null])) (fun _ kk => XS.aloadN X0.here hx rfl (hb hby dk0_0) rfl rfl kk) ?_
  refine own_step (T' := s₁) (g' := (mkF m 4 #[.val (.ref a1), .val .null] [(.int (0 : Int32))])) (fun _ kk => X0.instanceofNull hx (g := (mkF m 1 #[.val (.ref a1), .val .null] [.null])) rfl rfl (hb hby dk0_1) _ kk) ?_
  refine own_step (T' := s₁) (g' := (mkF m 28 #[.val (.ref a1), .val .null] [])) (fun _ kk => XS.ifYes X0.here hx rfl (pc0 := 4) (pc' := 28) rfl (hb hby dk0_4) rfl ((if0 _ _).trans (teq rfl).1) (by decide) (by decide) kk) ?_
  refine own_step (T' := s₁) (g' := (mkF m 29 #[.val (.ref a1), .val .null] [(.int (0 : Int32))])) (fun _ kk => XS.iconst X0.here hx rfl (hb hby dk0_28) kk) ?_
  exact own_retN X0 hx hlk (t := .boolean) hret (by simp) (hb hby dk0_29) e0 ⟨rfl, F190, rfl⟩ (by decide) (by decide)
theorem dk1_0 : decode prog_33_method_7_code 0 = .ok (.aload_n 1, 1) := by decide +kernel
theorem dk1_1 : decode prog_33_method_7_code 1 = .ok (.instanceof 50, 3) := by decide +kernel
theorem dk1_4 : decode prog_33_method_7_code 4 = .ok (.ifCond .eq 24, 3) := by decide +kernel
theorem dk1_7 : decode prog_33_method_7_code 7 = .ok (.aload_n 1, 1) := by decide +kernel
theorem dk1_8 : decode prog_33_method_7_code 8 = .ok (.checkcast 50, 3) := by decide +kernel
theorem dk1_11 : decode prog_33_method_7_code 11 = .ok (.getfield 55, 3) := by decide +kernel
theorem dk1_14 : decode prog_33_method_7_code 14 = .ok (.arraylength, 1) := by decide +kernel
theorem dk1_15 : decode prog_33_method_7_code 15 = .ok (.aload_n 0, 1) := by decide +kernel
theorem dk1_16 : decode prog_33_method_7_code 16 = .ok (.getfield 37, 3) := by decide +kernel
theorem dk1_19 : decode prog_33_method_7_code 19 = .ok (.iconst 1, 1) := by decide +kernel
theorem dk1_20 : decode prog_33_method_7_code 20 = .ok (.iadd, 1) := by decide +kernel
theorem dk1_21 : decode prog_33_method_7_code 21 = .ok (.if_icmp .ne 7, 3) := by decide +kernel
theorem dk1_24 : decode prog_33_method_7_code 24 = .ok (.iconst 1, 1) := by decide +kernel
theorem dk1_25 : decode prog_33_method_7_code 25 = .ok (.goto 4, 3) := by decide +kernel
theorem dk1_28 : decode prog_33_method_7_code 28 = .ok (.iconst 0, 1) := by decide +kernel
theorem dk1_29 : decode prog_33_method_7_code 29 = .ok (.ireturn, 1) := by decide +kernel
set_option maxRecDepth 65536 in
set_option maxHeartbeats 40000000 in
theorem rm_k1 (l : Launch) (Z : State) (a0 : Array Value) (hw : ∀ d ∈ tables_1, d.before a0 Z = true) (a1 b2 c4 : Addr) (cA : ClassId) (k3 z5 : Int32) (h0 : Heap) (O0 : Old Z Z.heap.size h0) (F1 : Fld Z h0 a1 "com/example/span60/span60/limit/SlidingWindow" "subWindows" "I" (.int k3)) (O2 : own_Obj Z h0 b2 "com/example/span60/span60/limit/SlidingWindow$State") (F2 : Fld Z h0 b2 "com/example/span60/span60/limit/SlidingWindow$State" "counts" "[J" (.ref c4)) (A4 : Arv Z h0 c4 cA .long z5 [] (.long 0)) :
    own_Con l Z (⟨"com/example/span60/span60/limit/SlidingWindow", "keeps", "(Lcom/example/span60/span60/limit/Algorithm$State;)Z"⟩ : MethodName) prog_33_method_7_code 2 (some .boolean) ({ frames := 0, cells := 0, slots := 0, locals := 0 } : Room) #[(.ref a1), (.ref b2)] h0 (fun v h L => v = some (.int (if z5 = k3 + (1 : Int32) then (1 : Int32) else (0 : Int32))) ∧ Fr Z.heap.size L ∧ h = h0) := by
  refine own_con (ls := #[.val (.ref a1), .val (.ref b2)]) (pn_com_example_span60_span60_limit_SlidingWindow) (fun m => by first | (simp [entryFrame, mkF, argsToLocals, Value.category]; done) | rfl) ?_
  intro p e s m below meth c s₁ hx hby hml0 hown0 hnm0 hret0 hlk hZ X0 e0
  have hml : c.maxLocals = 2 := hml0
  have hown : s.vm.findClass "com/example/span60/span60/limit/SlidingWindow" = some m.cls := hown0
  have hnm : meth.name = "keeps" := hnm0
  have hret : meth.sig.returnType = (some .boolean) := hret0
  have F192 := Fr.nil Z.heap.size
  have F193 := Keep.refl h0 []
  refine own_step (T' := s₁) (g' := (mkF m 1 #[.val (.ref a1), .val (.ref b2)] [(.ref b2)])) (fun _ kk => XS.aloadN X0.here hx rfl (hb hby dk1_0) rfl rfl kk) ?_
  obtain ⟨T194, X194, e194, st194⟩ := instY X0 hx hZ hown (w77 hw) e0 (Ins.self O2.1) (g := (mkF m 1 #[.val (.ref a1), .val (.ref b2)] [(.ref b2)])) rfl rfl (hb hby dk1_1)
  refine own_step (T' := T194) (g' := (mkF m 4 #[.val (.ref a1), .val (.ref b2)] [(.int (1 : Int32))])) (fun _ kk => st194 _ kk) ?_
  refine own_step (T' := T194) (g' := (mkF m 7 #[.val (.ref a1), .val (.ref b2)] [])) (fun _ kk => XS.ifNo X194.here hx rfl (hb hby dk1_4) rfl ((if0 _ _).trans (feq (by decide)).1) kk) ?_
  refine own_step (T' := T194) (g' := (mkF m 8 #[.val (.ref a1), .val (.ref b2)] [(.ref b2)])) (fun _ kk => XS.aloadN X194.here hx rfl (hb hby dk1_7) rfl rfl kk) ?_
  obtain ⟨T195, X195, e195, st195⟩ := castY X194 hx hZ hown (w77 hw) e194 (Ins.self O2.1) (g := (mkF m 8 #[.val (.ref a1), .val (.ref b2)] [(.ref b2)])) rfl rfl (hb hby dk1_8)
  refine own_step (T' := T195) (g' := (mkF m 11 #[.val (.ref a1), .val (.ref b2)] [(.ref b2)])) (fun _ kk => st195 _ kk) ?_
  refine own_step (T' := T195) (g' := (mkF m 14 #[.val (.ref a1), .val (.ref b2)] [(.ref c4)])) (fun _ kk => own_getR X195 hx hZ hown (w79 hw) e195 F2 (g := (mkF m 11 #[.val (.ref a1), .val (.ref b2)] [(.ref b2)])) rfl rfl (hb hby dk1_11) _ kk) ?_
  refine own_step (T' := T195) (g' := (mkF m 15 #[.val (.ref a1), .val (.ref b2)] [(.int z5)])) (fun _ kk => own_alen X195 hx hZ e195 A4 (g := (mkF m 14 #[.val (.ref a1), .val (.ref b2)] [(.ref c4)])) rfl rfl (hb hby dk1_14) _ kk) ?_
  refine own_step (T' := T195) (g' := (mkF m 16 #[.val (.ref a1), .val (.ref b2)] [(.ref a1), (.int z5)])) (fun _ kk => XS.aloadN X195.here hx rfl (hb hby dk1_15) rfl rfl kk) ?_
  obtain ⟨T196, X196, e196, st196⟩ := getF X195 hx hZ hown (host := "") (Or.inl (w49 hw)) Via.refl e195 F1 (g := (mkF m 16 #[.val (.ref a1), .val (.ref b2)] [(.ref a1), (.int z5)])) rfl rfl (hb hby dk1_16)
  refine own_step (T' := T196) (g' := (mkF m 19 #[.val (.ref a1), .val (.ref b2)] [(.int k3), (.int z5)])) (fun _ kk => st196 _ kk) ?_
  refine own_step (T' := T196) (g' := (mkF m 20 #[.val (.ref a1), .val (.ref b2)] [(.int (1 : Int32)), (.int k3), (.int z5)])) (fun _ kk => XS.iconst X196.here hx rfl (hb hby dk1_19) kk) ?_
  refine own_step (T' := T196) (g' := (mkF m 21 #[.val (.ref a1), .val (.ref b2)] [(.int (k3 + (1 : Int32))), (.int z5)])) (fun _ kk => XS.iadd X196.here hx rfl (hb hby dk1_20) rfl kk) ?_
  by_cases c197 : z5 = (k3 + (1 : Int32))
  · refine own_step (T' := T196) (g' := (mkF m 24 #[.val (.ref a1), .val (.ref b2)] [])) (fun _ kk => XS.icmpNo X196.here hx rfl (hb hby dk1_21) rfl (teq c197).2 kk) ?_
    refine own_step (T' := T196) (g' := (mkF m 25 #[.val (.ref a1), .val (.ref b2)] [(.int (1 : Int32))])) (fun _ kk => XS.iconst X196.here hx rfl (hb hby dk1_24) kk) ?_
    refine own_step (T' := T196) (g' := (mkF m 29 #[.val (.ref a1), .val (.ref b2)] [(.int (1 : Int32))])) (fun _ kk => XS.goto X196.here hx rfl (pc0 := 25) (pc' := 29) rfl (hb hby dk1_25) (by decide) (by decide) kk) ?_
    exact own_retN X196 hx hlk (t := .boolean) hret (by simp) (hb hby dk1_29) e196 ⟨by rw [if_pos c197]; rfl, F192, rfl⟩ (by decide) (by decide)
  · refine own_step (T' := T196) (g' := (mkF m 28 #[.val (.ref a1), .val (.ref b2)] [])) (fun _ kk => XS.icmpYes X196.here hx rfl (pc0 := 21) (pc' := 28) rfl (hb hby dk1_21) rfl (feq c197).2 (by decide) (by decide) kk) ?_
    refine own_step (T' := T196) (g' := (mkF m 29 #[.val (.ref a1), .val (.ref b2)] [(.int (0 : Int32))])) (fun _ kk => XS.iconst X196.here hx rfl (hb hby dk1_28) kk) ?_
    exact own_retN X196 hx hlk (t := .boolean) hret (by simp) (hb hby dk1_29) e196 ⟨by rw [if_neg c197]; rfl, F192, rfl⟩ (by decide) (by decide)
set_option maxRecDepth 65536 in
set_option maxHeartbeats 40000000 in
theorem rm_law (l : Launch) (Z : State) (a0 : Array Value) (hw : ∀ d ∈ tables_1, d.before a0 Z = true) (q0 : Int64) (p2 p3 p4 : Int32) (q5 : Int64) (p7 : Int32) (h0 : Heap) (O0 : Old Z Z.heap.size h0) (S1 : Sta Z Z.heap "com/example/span60/span60/limit/WindowLimit" "MAX_WINDOW_SECONDS" "J" (.long (9007199254740 : Int64))) :
    own_Con l Z x code maxLocals ret room_1 #[(.long q0), (.int p2), (.int p3), (.int p4), (.long q5), (.int p7)] h0 (fun v h L => v = some (.int 1) ∧ Fr Z.heap.size L) := by
  refine own_con (ls := #[.val (.long q0), .second, .val (.int p2), .val (.int p3), .val (.int p4), .val (.long q5), .second, .val (.int p7), .unset, .unset, .unset, .unset, .unset, .unset, .unset, .unset, .unset, .unset, .unset]) (pn_com_example_span60_span60_limit_SlidingWindowKeepsPinLaw) (fun m => by first | (simp [entryFrame, mkF, argsToLocals, Value.category, maxLocals]; done) | rfl) ?_
  intro p e s m below meth c s₁ hx hby hml0 hown0 hnm0 hret0 hlk hZ X0 e0
  have hml : c.maxLocals = 19 := hml0
  have hown : s.vm.findClass "com/example/span60/span60/limit/SlidingWindowKeepsPinLaw" = some m.cls := hown0
  have hnm : meth.name = "law" := hnm0
  have hret : meth.sig.returnType = (some .boolean) := hret0
  have F198 := Fr.nil Z.heap.size
  have F199 := Keep.refl h0 []
  have seg : ∀ (T : State) (locs : List Loc) (h : Heap) (win : Addr) (sp k : Int32) (W lim : Int64), Stand p l e room_1 s m #[.long q0, .int p2, .int p3, .int p4, .long q5, .int p7] below meth c T locs 1 7 → T.heap = h → Fr Z.heap.size locs → Old Z Z.heap.size h → own_Obj Z h win "com/example/span60/span60/limit/SlidingWindow" → Fld Z h win "com/example/span60/span60/limit/SlidingWindow" "subWindows" "I" (.int k) → 1 ≤ k.toInt → k.toInt ≤ 100 → own_Fin p e below (own_PostN s room_1 (fun v h L => v = some (.int 1) ∧ Fr Z.heap.size L)) T (mkF m 85 #[.val (.long q0), .second, .val (.int p2), .val (.int p3), .val (.int p4), .val (.long q5), .second, .val (.int p7), .val (.int sp), .val (.int k), .val (.long W), .second, .val (.long lim), .second, .unset, .unset, .unset, .unset, .unset] [.ref win]) := by
    intro T locs h win sp k W lim X1 e1 N1 O1 Ob Fk c1 c2
    refine own_step (T' := T) (g' := (mkF m 87 #[.val (.long q0), .second, .val (.int p2), .val (.int p3), .val (.int p4), .val (.long q5), .second, .val (.int p7), .val (.int sp), .val (.int k), .val (.long W), .second, .val (.long lim), .second, .val (.ref win), .unset, .unset, .unset, .unset] [])) (fun _ kk => XS.astore X1.here hx rfl (hb hby at_85) rfl rfl (l' := #[.val (.long q0), .second, .val (.int p2), .val (.int p3), .val (.int p4), .val (.long q5), .second, .val (.int p7), .val (.int sp), .val (.int k), .val (.long W), .second, .val (.long lim), .second, .val (.ref win), .unset, .unset, .unset, .unset]) rfl kk) ?_
    refine own_step (T' := T) (g' := (mkF m 89 #[.val (.long q0), .second, .val (.int p2), .val (.int p3), .val (.int p4), .val (.long q5), .second, .val (.int p7), .val (.int sp), .val (.int k), .val (.long W), .second, .val (.long lim), .second, .val (.ref win), .unset, .unset, .unset, .unset] [(.int p7)])) (fun _ kk => XS.iload X1.here hx rfl (hb hby at_87) rfl kk) ?_
    refine own_step (T' := T) (g' := (mkF m 90 #[.val (.long q0), .second, .val (.int p2), .val (.int p3), .val (.int p4), .val (.long q5), .second, .val (.int p7), .val (.int sp), .val (.int k), .val (.long W), .second, .val (.long lim), .second, .val (.ref win), .unset, .unset, .unset, .unset] [(.int (3 : Int32)), (.int p7)])) (fun _ kk => XS.iconst X1.here hx rfl (hb hby at_89) kk) ?_
    refine own_step (T' := T) (g' := (mkF m 91 #[.val (.long q0), .second, .val (.int p2), .val (.int p3), .val (.int p4), .val (.long q5), .second, .val (.int p7), .val (.int sp), .val (.int k), .val (.long W), .second, .val (.long lim), .second, .val (.ref win), .unset, .unset, .unset, .unset] [(.int (p7 &&& (3 : Int32)))])) (fun _ kk => XS.iand X1.here hx rfl (hb hby at_90) rfl kk) ?_
    refine own_step (T' := T) (g' := (mkF m 93 #[.val (.long q0), .second, .val (.int p2), .val (.int p3), .val (.int p4), .val (.long q5), .second, .val (.int p7), .val (.int sp), .val (.int k), .val (.long W), .second, .val (.long lim), .second, .val (.ref win), .val (.int (p7 &&& (3 : Int32))), .unset, .unset, .unset] [])) (fun _ kk => XS.istore X1.here hx rfl (hb hby at_91) rfl (l' := #[.val (.long q0), .second, .val (.int p2), .val (.int p3), .val (.int p4), .val (.long q5), .second, .val (.int p7), .val (.int sp), .val (.int k), .val (.long W), .second, .val (.long lim), .second, .val (.ref win), .val (.int (p7 &&& (3 : Int32))), .unset, .unset, .unset]) rfl kk) ?_
    refine own_step (T' := T) (g' := (mkF m 95 #[.val (.long q0), .second, .val (.int p2), .val (.int p3), .val (.int p4), .val (.long q5), .second, .val (.int p7), .val (.int sp), .val (.int k), .val (.long W), .second, .val (.long lim), .second, .val (.ref win), .val (.int (p7 &&& (3 : Int32))), .unset, .unset, .unset] [(.int (p7 &&& (3 : Int32)))])) (fun _ kk => XS.iload X1.here hx rfl (hb hby at_93) rfl kk) ?_
    by_cases c200 : (p7 &&& (3 : Int32)) = (0 : Int32)
    · refine own_step (T' := T) (g' := (mkF m 98 #[.val (.long q0), .second, .val (.int p2), .val (.int p3), .val (.int p4), .val (.long q5), .second, .val (.int p7), .val (.int sp), .val (.int k), .val (.long W), .second, .val (.long lim), .second, .val (.ref win), .val (.int (p7 &&& (3 : Int32))), .unset, .unset, .unset] [])) (fun _ kk => XS.ifNo X1.here hx rfl (hb hby at_95) rfl ((if0 _ _).trans (teq c200).2) kk) ?_
      refine own_step (T' := T) (g' := (mkF m 99 #[.val (.long q0), .second, .val (.int p2), .val (.int p3), .val (.int p4), .val (.long q5), .second, .val (.int p7), .val (.int sp), .val (.int k), .val (.long W), .second, .val (.long lim), .second, .val (.ref win), .val (.int (p7 &&& (3 : Int32))), .unset, .unset, .unset] [.null])) (fun _ kk => XS.aconstNull X1.here hx rfl (hb hby at_98) kk) ?_
      refine own_step (T' := T) (g' := (mkF m 101 #[.val (.long q0), .second, .val (.int p2), .val (.int p3), .val (.int p4), .val (.long q5), .second, .val (.int p7), .val (.int sp), .val (.int k), .val (.long W), .second, .val (.long lim), .second, .val (.ref win), .val (.int (p7 &&& (3 : Int32))), .val .null, .unset, .unset] [])) (fun _ kk => XS.astore X1.here hx rfl (hb hby at_99) rfl rfl (l' := #[.val (.long q0), .second, .val (.int p2), .val (.int p3), .val (.int p4), .val (.long q5), .second, .val (.int p7), .val (.int sp), .val (.int k), .val (.long W), .second, .val (.long lim), .second, .val (.ref win), .val (.int (p7 &&& (3 : Int32))), .val .null, .unset, .unset]) rfl kk) ?_
      refine own_step (T' := T) (g' := (mkF m 102 #[.val (.long q0), .second, .val (.int p2), .val (.int p3), .val (.int p4), .val (.long q5), .second, .val (.int p7), .val (.int sp), .val (.int k), .val (.long W), .second, .val (.long lim), .second, .val (.ref win), .val (.int (p7 &&& (3 : Int32))), .val .null, .unset, .unset] [(.int (0 : Int32))])) (fun _ kk => XS.iconst X1.here hx rfl (hb hby at_101) kk) ?_
      refine own_step (T' := T) (g' := (mkF m 104 #[.val (.long q0), .second, .val (.int p2), .val (.int p3), .val (.int p4), .val (.long q5), .second, .val (.int p7), .val (.int sp), .val (.int k), .val (.long W), .second, .val (.long lim), .second, .val (.ref win), .val (.int (p7 &&& (3 : Int32))), .val .null, .val (.int (0 : Int32)), .unset] [])) (fun _ kk => XS.istore X1.here hx rfl (hb hby at_102) rfl (l' := #[.val (.long q0), .second, .val (.int p2), .val (.int p3), .val (.int p4), .val (.long q5), .second, .val (.int p7), .val (.int sp), .val (.int k), .val (.long W), .second, .val (.long lim), .second, .val (.ref win), .val (.int (p7 &&& (3 : Int32))), .val .null, .val (.int (0 : Int32)), .unset]) rfl kk) ?_
      refine own_step (T' := T) (g' := (mkF m 184 #[.val (.long q0), .second, .val (.int p2), .val (.int p3), .val (.int p4), .val (.long q5), .second, .val (.int p7), .val (.int sp), .val (.int k), .val (.long W), .second, .val (.long lim), .second, .val (.ref win), .val (.int (p7 &&& (3 : Int32))), .val .null, .val (.int (0 : Int32)), .unset] [])) (fun _ kk => XS.goto X1.here hx rfl (pc0 := 104) (pc' := 184) rfl (hb hby at_104) (by decide) (by decide) kk) ?_
      refine own_step (T' := T) (g' := (mkF m 186 #[.val (.long q0), .second, .val (.int p2), .val (.int p3), .val (.int p4), .val (.long q5), .second, .val (.int p7), .val (.int sp), .val (.int k), .val (.long W), .second, .val (.long lim), .second, .val (.ref win), .val (.int (p7 &&& (3 : Int32))), .val .null, .val (.int (0 : Int32)), .unset] [(.ref win)])) (fun _ kk => XS.aload X1.here hx rfl (hb hby at_184) rfl rfl kk) ?_
      refine own_step (T' := T) (g' := (mkF m 188 #[.val (.long q0), .second, .val (.int p2), .val (.int p3), .val (.int p4), .val (.long q5), .second, .val (.int p7), .val (.int sp), .val (.int k), .val (.long W), .second, .val (.long lim), .second, .val (.ref win), .val (.int (p7 &&& (3 : Int32))), .val .null, .val (.int (0 : Int32)), .unset] [.null, (.ref win)])) (fun _ kk => XS.aload X1.here hx rfl (hb hby at_186) rfl rfl kk) ?_
      obtain ⟨T202, L202, _, h202, X202, e202, ⟨rfl, Nq201, eh201⟩, st202⟩ := own_callV X1 hx hZ hown (w72 hw) (w73 hw) (w75 hw) (w74 hw) (w76 hw) (w3 hw) (by decide) Ob.1 (g := (mkF m 188 #[.val (.long q0), .second, .val (.int p2), .val (.int p3), .val (.int p4), .val (.long q5), .second, .val (.int p7), .val (.int sp), .val (.int k), .val (.long W), .second, .val (.long lim), .second, .val (.ref win), .val (.int (p7 &&& (3 : Int32))), .val .null, .val (.int (0 : Int32)), .unset] [.null, (.ref win)])) rfl (by rw [hml]; rfl) (argsL := [.null]) (rest := []) (rm_k0 l Z a0 hw win _ O1) e1 pd__Lcom_example_span60_span60_limit_Algorithm_State__Z rfl rfl (W := 0) (by show 2 * 0 + _ ≤ _; exact Nat.le_of_eq rfl) (hb hby at_188) (by decide) (by decide) (by decide) (by decide)
      have F203 := Fr.app N1 Nq201
      have F204 := e202.trans eh201
      refine own_step (T' := T202) (g' := (mkF m 191 #[.val (.long q0), .second, .val (.int p2), .val (.int p3), .val (.int p4), .val (.long q5), .second, .val (.int p7), .val (.int sp), .val (.int k), .val (.long W), .second, .val (.long lim), .second, .val (.ref win), .val (.int (p7 &&& (3 : Int32))), .val .null, .val (.int (0 : Int32)), .unset] [(.int (0 : Int32))])) (fun _ kk => st202 _ kk) ?_
      refine own_step (T' := T202) (g' := (mkF m 193 #[.val (.long q0), .second, .val (.int p2), .val (.int p3), .val (.int p4), .val (.long q5), .second, .val (.int p7), .val (.int sp), .val (.int k), .val (.long W), .second, .val (.long lim), .second, .val (.ref win), .val (.int (p7 &&& (3 : Int32))), .val .null, .val (.int (0 : Int32)), .unset] [(.int (0 : Int32)), (.int (0 : Int32))])) (fun _ kk => XS.iload X202.here hx rfl (hb hby at_191) rfl kk) ?_
      refine own_step (T' := T202) (g' := (mkF m 196 #[.val (.long q0), .second, .val (.int p2), .val (.int p3), .val (.int p4), .val (.long q5), .second, .val (.int p7), .val (.int sp), .val (.int k), .val (.long W), .second, .val (.long lim), .second, .val (.ref win), .val (.int (p7 &&& (3 : Int32))), .val .null, .val (.int (0 : Int32)), .unset] [])) (fun _ kk => XS.icmpNo X202.here hx rfl (hb hby at_193) rfl (teq rfl).2 kk) ?_
      refine own_step (T' := T202) (g' := (mkF m 197 #[.val (.long q0), .second, .val (.int p2), .val (.int p3), .val (.int p4), .val (.long q5), .second, .val (.int p7), .val (.int sp), .val (.int k), .val (.long W), .second, .val (.long lim), .second, .val (.ref win), .val (.int (p7 &&& (3 : Int32))), .val .null, .val (.int (0 : Int32)), .unset] [(.int (1 : Int32))])) (fun _ kk => XS.iconst X202.here hx rfl (hb hby at_196) kk) ?_
      refine own_step (T' := T202) (g' := (mkF m 201 #[.val (.long q0), .second, .val (.int p2), .val (.int p3), .val (.int p4), .val (.long q5), .second, .val (.int p7), .val (.int sp), .val (.int k), .val (.long W), .second, .val (.long lim), .second, .val (.ref win), .val (.int (p7 &&& (3 : Int32))), .val .null, .val (.int (0 : Int32)), .unset] [(.int (1 : Int32))])) (fun _ kk => XS.goto X202.here hx rfl (pc0 := 197) (pc' := 201) rfl (hb hby at_197) (by decide) (by decide) kk) ?_
      exact own_retN X202 hx hlk (t := .boolean) hret (by simp) (hb hby at_201) F204 ⟨rfl, F203⟩ (by decide) (by decide)
    · refine own_step (T' := T) (g' := (mkF m 107 #[.val (.long q0), .second, .val (.int p2), .val (.int p3), .val (.int p4), .val (.long q5), .second, .val (.int p7), .val (.int sp), .val (.int k), .val (.long W), .second, .val (.long lim), .second, .val (.ref win), .val (.int (p7 &&& (3 : Int32))), .unset, .unset, .unset] [])) (fun _ kk => XS.ifYes X1.here hx rfl (pc0 := 95) (pc' := 107) rfl (hb hby at_95) rfl ((if0 _ _).trans (feq c200).2) (by decide) (by decide) kk) ?_
      refine own_step (T' := T) (g' := (mkF m 109 #[.val (.long q0), .second, .val (.int p2), .val (.int p3), .val (.int p4), .val (.long q5), .second, .val (.int p7), .val (.int sp), .val (.int k), .val (.long W), .second, .val (.long lim), .second, .val (.ref win), .val (.int (p7 &&& (3 : Int32))), .unset, .unset, .unset] [(.int (p7 &&& (3 : Int32)))])) (fun _ kk => XS.iload X1.here hx rfl (hb hby at_107) rfl kk) ?_
      refine own_step (T' := T) (g' := (mkF m 110 #[.val (.long q0), .second, .val (.int p2), .val (.int p3), .val (.int p4), .val (.long q5), .second, .val (.int p7), .val (.int sp), .val (.int k), .val (.long W), .second, .val (.long lim), .second, .val (.ref win), .val (.int (p7 &&& (3 : Int32))), .unset, .unset, .unset] [(.int (1 : Int32)), (.int (p7 &&& (3 : Int32)))])) (fun _ kk => XS.iconst X1.here hx rfl (hb hby at_109) kk) ?_
      by_cases c205 : (p7 &&& (3 : Int32)) = (1 : Int32)
      · refine own_step (T' := T) (g' := (mkF m 113 #[.val (.long q0), .second, .val (.int p2), .val (.int p3), .val (.int p4), .val (.long q5), .second, .val (.int p7), .val (.int sp), .val (.int k), .val (.long W), .second, .val (.long lim), .second, .val (.ref win), .val (.int (p7 &&& (3 : Int32))), .unset, .unset, .unset] [])) (fun _ kk => XS.icmpNo X1.here hx rfl (hb hby at_110) rfl (teq c205).2 kk) ?_
        refine own_step (T' := T) (g' := (mkF m 115 #[.val (.long q0), .second, .val (.int p2), .val (.int p3), .val (.int p4), .val (.long q5), .second, .val (.int p7), .val (.int sp), .val (.int k), .val (.long W), .second, .val (.long lim), .second, .val (.ref win), .val (.int (p7 &&& (3 : Int32))), .unset, .unset, .unset] [(.ref win)])) (fun _ kk => XS.aload X1.here hx rfl (hb hby at_113) rfl rfl kk) ?_
        refine own_step (T' := T) (g' := (mkF m 117 #[.val (.long q0), .second, .val (.int p2), .val (.int p3), .val (.int p4), .val (.long q5), .second, .val (.int p7), .val (.int sp), .val (.int k), .val (.long W), .second, .val (.long lim), .second, .val (.ref win), .val (.int (p7 &&& (3 : Int32))), .unset, .unset, .unset] [(.long q5), (.ref win)])) (fun _ kk => XS.lload X1.here hx rfl (hb hby at_115) rfl kk) ?_
        obtain ⟨T206, L206, _, h206, X206, e206, ⟨st, rfl, Nq, Kq, Oq, b, cA, Fq, Aq⟩, st206⟩ := own_callV X1 hx hZ hown (w85 hw) (w86 hw) (w88 hw) (w87 hw) (w89 hw) (w3 hw) (by decide) Ob.1 (g := (mkF m 117 #[.val (.long q0), .second, .val (.int p2), .val (.int p3), .val (.int p4), .val (.long q5), .second, .val (.int p7), .val (.int sp), .val (.int k), .val (.long W), .second, .val (.long lim), .second, .val (.ref win), .val (.int (p7 &&& (3 : Int32))), .unset, .unset, .unset] [(.long q5), (.ref win)])) rfl (by rw [hml]; rfl) (argsL := [(.long q5)]) (rest := []) (rm_ns l Z a0 hw win k q5 _ O1 Ob Fk c1 c2) e1 pd__J_Lcom_example_span60_span60_limit_SlidingWindow_State_ rfl rfl (W := 0) (by show 2 * 0 + _ ≤ _; exact Nat.le_of_eq rfl) (hb hby at_117) (by decide) (by decide) (by decide) (by decide)
        have F207 := Fr.app N1 Nq
        have F208 := Ob.keep Kq
        have F209 := Fk.keep Kq nin0
        have F210 := O1.keep Kq all0
        refine own_step (T' := T206) (g' := (mkF m 120 #[.val (.long q0), .second, .val (.int p2), .val (.int p3), .val (.int p4), .val (.long q5), .second, .val (.int p7), .val (.int sp), .val (.int k), .val (.long W), .second, .val (.long lim), .second, .val (.ref win), .val (.int (p7 &&& (3 : Int32))), .unset, .unset, .unset] [(.ref st)])) (fun _ kk => st206 _ kk) ?_
        refine own_step (T' := T206) (g' := (mkF m 122 #[.val (.long q0), .second, .val (.int p2), .val (.int p3), .val (.int p4), .val (.long q5), .second, .val (.int p7), .val (.int sp), .val (.int k), .val (.long W), .second, .val (.long lim), .second, .val (.ref win), .val (.int (p7 &&& (3 : Int32))), .val (.ref st), .unset, .unset] [])) (fun _ kk => XS.astore X206.here hx rfl (hb hby at_120) rfl rfl (l' := #[.val (.long q0), .second, .val (.int p2), .val (.int p3), .val (.int p4), .val (.long q5), .second, .val (.int p7), .val (.int sp), .val (.int k), .val (.long W), .second, .val (.long lim), .second, .val (.ref win), .val (.int (p7 &&& (3 : Int32))), .val (.ref st), .unset, .unset]) rfl kk) ?_
        refine own_step (T' := T206) (g' := (mkF m 123 #[.val (.long q0), .second, .val (.int p2), .val (.int p3), .val (.int p4), .val (.long q5), .second, .val (.int p7), .val (.int sp), .val (.int k), .val (.long W), .second, .val (.long lim), .second, .val (.ref win), .val (.int (p7 &&& (3 : Int32))), .val (.ref st), .unset, .unset] [(.int (1 : Int32))])) (fun _ kk => XS.iconst X206.here hx rfl (hb hby at_122) kk) ?_
        refine own_step (T' := T206) (g' := (mkF m 125 #[.val (.long q0), .second, .val (.int p2), .val (.int p3), .val (.int p4), .val (.long q5), .second, .val (.int p7), .val (.int sp), .val (.int k), .val (.long W), .second, .val (.long lim), .second, .val (.ref win), .val (.int (p7 &&& (3 : Int32))), .val (.ref st), .val (.int (1 : Int32)), .unset] [])) (fun _ kk => XS.istore X206.here hx rfl (hb hby at_123) rfl (l' := #[.val (.long q0), .second, .val (.int p2), .val (.int p3), .val (.int p4), .val (.long q5), .second, .val (.int p7), .val (.int sp), .val (.int k), .val (.long W), .second, .val (.long lim), .second, .val (.ref win), .val (.int (p7 &&& (3 : Int32))), .val (.ref st), .val (.int (1 : Int32)), .unset]) rfl kk) ?_
        refine own_step (T' := T206) (g' := (mkF m 184 #[.val (.long q0), .second, .val (.int p2), .val (.int p3), .val (.int p4), .val (.long q5), .second, .val (.int p7), .val (.int sp), .val (.int k), .val (.long W), .second, .val (.long lim), .second, .val (.ref win), .val (.int (p7 &&& (3 : Int32))), .val (.ref st), .val (.int (1 : Int32)), .unset] [])) (fun _ kk => XS.goto X206.here hx rfl (pc0 := 125) (pc' := 184) rfl (hb hby at_125) (by decide) (by decide) kk) ?_
        refine own_step (T' := T206) (g' := (mkF m 186 #[.val (.long q0), .second, .val (.int p2), .val (.int p3), .val (.int p4), .val (.long q5), .second, .val (.int p7), .val (.int sp), .val (.int k), .val (.long W), .second, .val (.long lim), .second, .val (.ref win), .val (.int (p7 &&& (3 : Int32))), .val (.ref st), .val (.int (1 : Int32)), .unset] [(.ref win)])) (fun _ kk => XS.aload X206.here hx rfl (hb hby at_184) rfl rfl kk) ?_
        refine own_step (T' := T206) (g' := (mkF m 188 #[.val (.long q0), .second, .val (.int p2), .val (.int p3), .val (.int p4), .val (.long q5), .second, .val (.int p7), .val (.int sp), .val (.int k), .val (.long W), .second, .val (.long lim), .second, .val (.ref win), .val (.int (p7 &&& (3 : Int32))), .val (.ref st), .val (.int (1 : Int32)), .unset] [(.ref st), (.ref win)])) (fun _ kk => XS.aload X206.here hx rfl (hb hby at_186) rfl rfl kk) ?_
        obtain ⟨T212, L212, _, h212, X212, e212, ⟨rfl, Nq211, eh211⟩, st212⟩ := own_callV X206 hx hZ hown (w72 hw) (w73 hw) (w75 hw) (w74 hw) (w76 hw) (w3 hw) (by decide) F208.1 (g := (mkF m 188 #[.val (.long q0), .second, .val (.int p2), .val (.int p3), .val (.int p4), .val (.long q5), .second, .val (.int p7), .val (.int sp), .val (.int k), .val (.long W), .second, .val (.long lim), .second, .val (.ref win), .val (.int (p7 &&& (3 : Int32))), .val (.ref st), .val (.int (1 : Int32)), .unset] [(.ref st), (.ref win)])) rfl (by rw [hml]; rfl) (argsL := [(.ref st)]) (rest := []) (rm_k1 l Z a0 hw win st b cA k (k + (1 : Int32)) _ F210 F209 Oq Fq Aq) e206 pd__Lcom_example_span60_span60_limit_Algorithm_State__Z rfl rfl (W := 0) (by show 2 * 0 + _ ≤ _; exact Nat.le_of_eq rfl) (hb hby at_188) (by decide) (by decide) (by decide) (by decide)
        have F213 := Fr.app F207 Nq211
        have F214 := e212.trans eh211
        refine own_step (T' := T212) (g' := (mkF m 191 #[.val (.long q0), .second, .val (.int p2), .val (.int p3), .val (.int p4), .val (.long q5), .second, .val (.int p7), .val (.int sp), .val (.int k), .val (.long W), .second, .val (.long lim), .second, .val (.ref win), .val (.int (p7 &&& (3 : Int32))), .val (.ref st), .val (.int (1 : Int32)), .unset] [(.int (if k + (1 : Int32) = k + (1 : Int32) then (1 : Int32) else (0 : Int32)))])) (fun _ kk => st212 _ kk) ?_
        refine own_step (T' := T212) (g' := (mkF m 193 #[.val (.long q0), .second, .val (.int p2), .val (.int p3), .val (.int p4), .val (.long q5), .second, .val (.int p7), .val (.int sp), .val (.int k), .val (.long W), .second, .val (.long lim), .second, .val (.ref win), .val (.int (p7 &&& (3 : Int32))), .val (.ref st), .val (.int (1 : Int32)), .unset] [(.int (1 : Int32)), (.int (if k + (1 : Int32) = k + (1 : Int32) then (1 : Int32) else (0 : Int32)))])) (fun _ kk => XS.iload X212.here hx rfl (hb hby at_191) rfl kk) ?_
        refine own_step (T' := T212) (g' := (mkF m 196 #[.val (.long q0), .second, .val (.int p2), .val (.int p3), .val (.int p4), .val (.long q5), .second, .val (.int p7), .val (.int sp), .val (.int k), .val (.long W), .second, .val (.long lim), .second, .val (.ref win), .val (.int (p7 &&& (3 : Int32))), .val (.ref st), .val (.int (1 : Int32)), .unset] [])) (fun _ kk => XS.icmpNo X212.here hx rfl (hb hby at_193) rfl (teq (by rw [if_pos rfl])).2 kk) ?_
        refine own_step (T' := T212) (g' := (mkF m 197 #[.val (.long q0), .second, .val (.int p2), .val (.int p3), .val (.int p4), .val (.long q5), .second, .val (.int p7), .val (.int sp), .val (.int k), .val (.long W), .second, .val (.long lim), .second, .val (.ref win), .val (.int (p7 &&& (3 : Int32))), .val (.ref st), .val (.int (1 : Int32)), .unset] [(.int (1 : Int32))])) (fun _ kk => XS.iconst X212.here hx rfl (hb hby at_196) kk) ?_
        refine own_step (T' := T212) (g' := (mkF m 201 #[.val (.long q0), .second, .val (.int p2), .val (.int p3), .val (.int p4), .val (.long q5), .second, .val (.int p7), .val (.int sp), .val (.int k), .val (.long W), .second, .val (.long lim), .second, .val (.ref win), .val (.int (p7 &&& (3 : Int32))), .val (.ref st), .val (.int (1 : Int32)), .unset] [(.int (1 : Int32))])) (fun _ kk => XS.goto X212.here hx rfl (pc0 := 197) (pc' := 201) rfl (hb hby at_197) (by decide) (by decide) kk) ?_
        exact own_retN X212 hx hlk (t := .boolean) hret (by simp) (hb hby at_201) F214 ⟨rfl, F213⟩ (by decide) (by decide)
      · refine own_step (T' := T) (g' := (mkF m 128 #[.val (.long q0), .second, .val (.int p2), .val (.int p3), .val (.int p4), .val (.long q5), .second, .val (.int p7), .val (.int sp), .val (.int k), .val (.long W), .second, .val (.long lim), .second, .val (.ref win), .val (.int (p7 &&& (3 : Int32))), .unset, .unset, .unset] [])) (fun _ kk => XS.icmpYes X1.here hx rfl (pc0 := 110) (pc' := 128) rfl (hb hby at_110) rfl (feq c205).2 (by decide) (by decide) kk) ?_
        refine own_step (T' := T) (g' := (mkF m 130 #[.val (.long q0), .second, .val (.int p2), .val (.int p3), .val (.int p4), .val (.long q5), .second, .val (.int p7), .val (.int sp), .val (.int k), .val (.long W), .second, .val (.long lim), .second, .val (.ref win), .val (.int (p7 &&& (3 : Int32))), .unset, .unset, .unset] [(.int (p7 &&& (3 : Int32)))])) (fun _ kk => XS.iload X1.here hx rfl (hb hby at_128) rfl kk) ?_
        refine own_step (T' := T) (g' := (mkF m 131 #[.val (.long q0), .second, .val (.int p2), .val (.int p3), .val (.int p4), .val (.long q5), .second, .val (.int p7), .val (.int sp), .val (.int k), .val (.long W), .second, .val (.long lim), .second, .val (.ref win), .val (.int (p7 &&& (3 : Int32))), .unset, .unset, .unset] [(.int (2 : Int32)), (.int (p7 &&& (3 : Int32)))])) (fun _ kk => XS.iconst X1.here hx rfl (hb hby at_130) kk) ?_
        by_cases c215 : (p7 &&& (3 : Int32)) = (2 : Int32)
        · refine own_step (T' := T) (g' := (mkF m 134 #[.val (.long q0), .second, .val (.int p2), .val (.int p3), .val (.int p4), .val (.long q5), .second, .val (.int p7), .val (.int sp), .val (.int k), .val (.long W), .second, .val (.long lim), .second, .val (.ref win), .val (.int (p7 &&& (3 : Int32))), .unset, .unset, .unset] [])) (fun _ kk => XS.icmpNo X1.here hx rfl (hb hby at_131) rfl (teq c215).2 kk) ?_
          refine own_step (T' := T) (g' := (mkF m 136 #[.val (.long q0), .second, .val (.int p2), .val (.int p3), .val (.int p4), .val (.long q5), .second, .val (.int p7), .val (.int sp), .val (.int k), .val (.long W), .second, .val (.long lim), .second, .val (.ref win), .val (.int (p7 &&& (3 : Int32))), .unset, .unset, .unset] [(.int p4)])) (fun _ kk => XS.iload X1.here hx rfl (hb hby at_134) rfl kk) ?_
          refine own_step (T' := T) (g' := (mkF m 138 #[.val (.long q0), .second, .val (.int p2), .val (.int p3), .val (.int p4), .val (.long q5), .second, .val (.int p7), .val (.int sp), .val (.int k), .val (.long W), .second, .val (.long lim), .second, .val (.ref win), .val (.int (p7 &&& (3 : Int32))), .unset, .unset, .unset] [(.int (127 : Int32)), (.int p4)])) (fun _ kk => XS.bipush X1.here hx rfl (hb hby at_136) kk) ?_
          refine own_step (T' := T) (g' := (mkF m 139 #[.val (.long q0), .second, .val (.int p2), .val (.int p3), .val (.int p4), .val (.long q5), .second, .val (.int p7), .val (.int sp), .val (.int k), .val (.long W), .second, .val (.long lim), .second, .val (.ref win), .val (.int (p7 &&& (3 : Int32))), .unset, .unset, .unset] [(.int (p4 &&& (127 : Int32)))])) (fun _ kk => XS.iand X1.here hx rfl (hb hby at_138) rfl kk) ?_
          refine own_step (T' := T) (g' := (mkF m 151 #[.val (.long q0), .second, .val (.int p2), .val (.int p3), .val (.int p4), .val (.long q5), .second, .val (.int p7), .val (.int sp), .val (.int k), .val (.long W), .second, .val (.long lim), .second, .val (.ref win), .val (.int (p7 &&& (3 : Int32))), .unset, .unset, .unset] [(.int (p4 &&& (127 : Int32)))])) (fun _ kk => XS.goto X1.here hx rfl (pc0 := 139) (pc' := 151) rfl (hb hby at_139) (by decide) (by decide) kk) ?_
          refine own_step (T' := T) (g' := (mkF m 153 #[.val (.long q0), .second, .val (.int p2), .val (.int p3), .val (.int p4), .val (.long q5), .second, .val (.int p7), .val (.int sp), .val (.int k), .val (.long W), .second, .val (.long lim), .second, .val (.ref win), .val (.int (p7 &&& (3 : Int32))), .unset, .unset, .val (.int (p4 &&& (127 : Int32)))] [])) (fun _ kk => XS.istore X1.here hx rfl (hb hby at_151) rfl (l' := #[.val (.long q0), .second, .val (.int p2), .val (.int p3), .val (.int p4), .val (.long q5), .second, .val (.int p7), .val (.int sp), .val (.int k), .val (.long W), .second, .val (.long lim), .second, .val (.ref win), .val (.int (p7 &&& (3 : Int32))), .unset, .unset, .val (.int (p4 &&& (127 : Int32)))]) rfl kk) ?_
          obtain ⟨T217, h217, X217, e217, E217, A217, D217, U217, st217⟩ := newO X1 hx hZ hown (w55 hw) (w56 hw) (w57 hw) e1 (g := (mkF m 153 #[.val (.long q0), .second, .val (.int p2), .val (.int p3), .val (.int p4), .val (.long q5), .second, .val (.int p7), .val (.int sp), .val (.int k), .val (.long W), .second, .val (.long lim), .second, .val (.ref win), .val (.int (p7 &&& (3 : Int32))), .unset, .unset, .val (.int (p4 &&& (127 : Int32)))] [])) rfl (hb hby at_153) (by decide) (by decide)
          obtain ⟨a216, g217⟩ : ∃ z, z = h.size := ⟨_, rfl⟩
          rw [← g217] at A217 D217 U217 st217
          have ne218 : win ≠ a216 := Nat.ne_of_lt (by rw [g217]; exact Ob.lt)
          have ge219 : Z.heap.size ≤ a216 := by rw [g217]; exact O1.2.1
          have F220 := Ob.ext E217
          have F221 := Fk.ext E217
          have F222 := O1.ext E217
          have F223 : own_Obj Z h217 a216 "com/example/span60/span60/limit/SlidingWindow$State" := own_Obj.new A217 U217
          refine own_step (T' := T217) (g' := (mkF m 156 #[.val (.long q0), .second, .val (.int p2), .val (.int p3), .val (.int p4), .val (.long q5), .second, .val (.int p7), .val (.int sp), .val (.int k), .val (.long W), .second, .val (.long lim), .second, .val (.ref win), .val (.int (p7 &&& (3 : Int32))), .unset, .unset, .val (.int (p4 &&& (127 : Int32)))] [(.ref a216)])) (fun _ kk => st217 _ kk) ?_
          refine own_step (T' := T217) (g' := (mkF m 157 #[.val (.long q0), .second, .val (.int p2), .val (.int p3), .val (.int p4), .val (.long q5), .second, .val (.int p7), .val (.int sp), .val (.int k), .val (.long W), .second, .val (.long lim), .second, .val (.ref win), .val (.int (p7 &&& (3 : Int32))), .unset, .unset, .val (.int (p4 &&& (127 : Int32)))] [(.ref a216), (.ref a216)])) (fun _ kk => XS.dup X217.here hx rfl (hb hby at_156) rfl rfl kk) ?_
          refine own_step (T' := T217) (g' := (mkF m 159 #[.val (.long q0), .second, .val (.int p2), .val (.int p3), .val (.int p4), .val (.long q5), .second, .val (.int p7), .val (.int sp), .val (.int k), .val (.long W), .second, .val (.long lim), .second, .val (.ref win), .val (.int (p7 &&& (3 : Int32))), .unset, .unset, .val (.int (p4 &&& (127 : Int32)))] [(.int (p4 &&& (127 : Int32))), (.ref a216), (.ref a216)])) (fun _ kk => XS.iload X217.here hx rfl (hb hby at_157) rfl kk) ?_
          obtain ⟨T225, h225, cA225, X225, e225, E225, A225, st225⟩ := newP X217 hx hZ (aty := .long) (w58 hw) e217 (g := (mkF m 159 #[.val (.long q0), .second, .val (.int p2), .val (.int p3), .val (.int p4), .val (.long q5), .second, .val (.int p7), .val (.int sp), .val (.int k), .val (.long W), .second, .val (.long lim), .second, .val (.ref win), .val (.int (p7 &&& (3 : Int32))), .unset, .unset, .val (.int (p4 &&& (127 : Int32)))] [(.int (p4 &&& (127 : Int32))), (.ref a216), (.ref a216)])) rfl (hb hby at_159) rfl (own_nneg (own_and127 p4).1) (cap := 127) (own_cap (own_and127 p4).2) (by decide) (by decide) (by decide)
          obtain ⟨a224, g225⟩ : ∃ z, z = h217.size := ⟨_, rfl⟩
          rw [← g225] at A225 st225
          have ne226 : win ≠ a224 := Nat.ne_of_lt (by rw [g225]; exact F220.lt)
          have ne227 : a216 ≠ a224 := Nat.ne_of_lt (by rw [g225]; exact F223.lt)
          have ge228 : Z.heap.size ≤ a224 := by rw [g225]; exact F222.2.1
          have F229 := F220.ext E225
          have F230 := F221.ext E225
          have F231 := F223.ext E225
          have F232 := F222.ext E225
          have F233 : Arv Z h225 a224 cA225 .long (p4 &&& (127 : Int32)) [] (.long 0) := Arv.new A225 (own_nneg (own_and127 p4).1)
          refine own_step (T' := T225) (g' := (mkF m 161 #[.val (.long q0), .second, .val (.int p2), .val (.int p3), .val (.int p4), .val (.long q5), .second, .val (.int p7), .val (.int sp), .val (.int k), .val (.long W), .second, .val (.long lim), .second, .val (.ref win), .val (.int (p7 &&& (3 : Int32))), .unset, .unset, .val (.int (p4 &&& (127 : Int32)))] [(.ref a224), (.ref a216), (.ref a216)])) (fun _ kk => st225 _ kk) ?_
          refine own_step (T' := T225) (g' := (mkF m 163 #[.val (.long q0), .second, .val (.int p2), .val (.int p3), .val (.int p4), .val (.long q5), .second, .val (.int p7), .val (.int sp), .val (.int k), .val (.long W), .second, .val (.long lim), .second, .val (.ref win), .val (.int (p7 &&& (3 : Int32))), .unset, .unset, .val (.int (p4 &&& (127 : Int32)))] [(.long q5), (.ref a224), (.ref a216), (.ref a216)])) (fun _ kk => XS.lload X225.here hx rfl (hb hby at_161) rfl kk) ?_
          obtain ⟨T234, L234, _, h234, X234, e234, ⟨rfl, Nqa216, Kqa216, Oqa216, Fqa216⟩, st234⟩ := own_callC X225 hx hZ hown rfl (w59 hw) (w60 hw) (w61 hw) (w57 hw) (by decide) (a := a216) (g := (mkF m 163 #[.val (.long q0), .second, .val (.int p2), .val (.int p3), .val (.int p4), .val (.long q5), .second, .val (.int p7), .val (.int sp), .val (.int k), .val (.long W), .second, .val (.long lim), .second, .val (.ref win), .val (.int (p7 &&& (3 : Int32))), .unset, .unset, .val (.int (p4 &&& (127 : Int32)))] [(.long q5), (.ref a224), (.ref a216), (.ref a216)])) rfl (by rw [hml]; rfl) (argsL := [(.ref a224), (.long q5)]) (rest := [(.ref a216)]) (rm_sti l Z a0 hw a216 a224 q5 _ F232 F231 ge219) e225 pd___JJ_V rfl rfl (W := 1) (by show 2 * 0 + _ ≤ _; exact Nat.le_of_eq rfl) (hb hby at_163) (by decide) (by decide) (by decide) (by decide)
          have F235 := Fr.app N1 Nqa216
          have F236 := F229.keep Kqa216
          have F237 := F230.keep Kqa216 (ninS ne218 nin0)
          have F238 := F231.keep Kqa216
          have F239 := F233.keep Kqa216 (ninS (Ne.symm ne227) nin0)
          have F240 := F232.keep Kqa216 (allS ge219 all0)
          refine own_step (T' := T234) (g' := (mkF m 166 #[.val (.long q0), .second, .val (.int p2), .val (.int p3), .val (.int p4), .val (.long q5), .second, .val (.int p7), .val (.int sp), .val (.int k), .val (.long W), .second, .val (.long lim), .second, .val (.ref win), .val (.int (p7 &&& (3 : Int32))), .unset, .unset, .val (.int (p4 &&& (127 : Int32)))] [(.ref a216)])) (fun _ kk => st234 _ kk) ?_
          refine own_step (T' := T234) (g' := (mkF m 168 #[.val (.long q0), .second, .val (.int p2), .val (.int p3), .val (.int p4), .val (.long q5), .second, .val (.int p7), .val (.int sp), .val (.int k), .val (.long W), .second, .val (.long lim), .second, .val (.ref win), .val (.int (p7 &&& (3 : Int32))), .val (.ref a216), .unset, .val (.int (p4 &&& (127 : Int32)))] [])) (fun _ kk => XS.astore X234.here hx rfl (hb hby at_166) rfl rfl (l' := #[.val (.long q0), .second, .val (.int p2), .val (.int p3), .val (.int p4), .val (.long q5), .second, .val (.int p7), .val (.int sp), .val (.int k), .val (.long W), .second, .val (.long lim), .second, .val (.ref win), .val (.int (p7 &&& (3 : Int32))), .val (.ref a216), .unset, .val (.int (p4 &&& (127 : Int32)))]) rfl kk) ?_
          refine own_step (T' := T234) (g' := (mkF m 170 #[.val (.long q0), .second, .val (.int p2), .val (.int p3), .val (.int p4), .val (.long q5), .second, .val (.int p7), .val (.int sp), .val (.int k), .val (.long W), .second, .val (.long lim), .second, .val (.ref win), .val (.int (p7 &&& (3 : Int32))), .val (.ref a216), .unset, .val (.int (p4 &&& (127 : Int32)))] [(.int (p4 &&& (127 : Int32)))])) (fun _ kk => XS.iload X234.here hx rfl (hb hby at_168) rfl kk) ?_
          refine own_step (T' := T234) (g' := (mkF m 172 #[.val (.long q0), .second, .val (.int p2), .val (.int p3), .val (.int p4), .val (.long q5), .second, .val (.int p7), .val (.int sp), .val (.int k), .val (.long W), .second, .val (.long lim), .second, .val (.ref win), .val (.int (p7 &&& (3 : Int32))), .val (.ref a216), .unset, .val (.int (p4 &&& (127 : Int32)))] [(.int k), (.int (p4 &&& (127 : Int32)))])) (fun _ kk => XS.iload X234.here hx rfl (hb hby at_170) rfl kk) ?_
          refine own_step (T' := T234) (g' := (mkF m 173 #[.val (.long q0), .second, .val (.int p2), .val (.int p3), .val (.int p4), .val (.long q5), .second, .val (.int p7), .val (.int sp), .val (.int k), .val (.long W), .second, .val (.long lim), .second, .val (.ref win), .val (.int (p7 &&& (3 : Int32))), .val (.ref a216), .unset, .val (.int (p4 &&& (127 : Int32)))] [(.int (1 : Int32)), (.int k), (.int (p4 &&& (127 : Int32)))])) (fun _ kk => XS.iconst X234.here hx rfl (hb hby at_172) kk) ?_
          refine own_step (T' := T234) (g' := (mkF m 174 #[.val (.long q0), .second, .val (.int p2), .val (.int p3), .val (.int p4), .val (.long q5), .second, .val (.int p7), .val (.int sp), .val (.int k), .val (.long W), .second, .val (.long lim), .second, .val (.ref win), .val (.int (p7 &&& (3 : Int32))), .val (.ref a216), .unset, .val (.int (p4 &&& (127 : Int32)))] [(.int (k + (1 : Int32))), (.int (p4 &&& (127 : Int32)))])) (fun _ kk => XS.iadd X234.here hx rfl (hb hby at_173) rfl kk) ?_
          by_cases c241 : (p4 &&& (127 : Int32)) = (k + (1 : Int32))
          · refine own_step (T' := T234) (g' := (mkF m 177 #[.val (.long q0), .second, .val (.int p2), .val (.int p3), .val (.int p4), .val (.long q5), .second, .val (.int p7), .val (.int sp), .val (.int k), .val (.long W), .second, .val (.long lim), .second, .val (.ref win), .val (.int (p7 &&& (3 : Int32))), .val (.ref a216), .unset, .val (.int (p4 &&& (127 : Int32)))] [])) (fun _ kk => XS.icmpNo X234.here hx rfl (hb hby at_174) rfl (teq c241).2 kk) ?_
            refine own_step (T' := T234) (g' := (mkF m 178 #[.val (.long q0), .second, .val (.int p2), .val (.int p3), .val (.int p4), .val (.long q5), .second, .val (.int p7), .val (.int sp), .val (.int k), .val (.long W), .second, .val (.long lim), .second, .val (.ref win), .val (.int (p7 &&& (3 : Int32))), .val (.ref a216), .unset, .val (.int (p4 &&& (127 : Int32)))] [(.int (1 : Int32))])) (fun _ kk => XS.iconst X234.here hx rfl (hb hby at_177) kk) ?_
            refine own_step (T' := T234) (g' := (mkF m 182 #[.val (.long q0), .second, .val (.int p2), .val (.int p3), .val (.int p4), .val (.long q5), .second, .val (.int p7), .val (.int sp), .val (.int k), .val (.long W), .second, .val (.long lim), .second, .val (.ref win), .val (.int (p7 &&& (3 : Int32))), .val (.ref a216), .unset, .val (.int (p4 &&& (127 : Int32)))] [(.int (1 : Int32))])) (fun _ kk => XS.goto X234.here hx rfl (pc0 := 178) (pc' := 182) rfl (hb hby at_178) (by decide) (by decide) kk) ?_
            refine own_step (T' := T234) (g' := (mkF m 184 #[.val (.long q0), .second, .val (.int p2), .val (.int p3), .val (.int p4), .val (.long q5), .second, .val (.int p7), .val (.int sp), .val (.int k), .val (.long W), .second, .val (.long lim), .second, .val (.ref win), .val (.int (p7 &&& (3 : Int32))), .val (.ref a216), .val (.int (1 : Int32)), .val (.int (p4 &&& (127 : Int32)))] [])) (fun _ kk => XS.istore X234.here hx rfl (hb hby at_182) rfl (l' := #[.val (.long q0), .second, .val (.int p2), .val (.int p3), .val (.int p4), .val (.long q5), .second, .val (.int p7), .val (.int sp), .val (.int k), .val (.long W), .second, .val (.long lim), .second, .val (.ref win), .val (.int (p7 &&& (3 : Int32))), .val (.ref a216), .val (.int (1 : Int32)), .val (.int (p4 &&& (127 : Int32)))]) rfl kk) ?_
            refine own_step (T' := T234) (g' := (mkF m 186 #[.val (.long q0), .second, .val (.int p2), .val (.int p3), .val (.int p4), .val (.long q5), .second, .val (.int p7), .val (.int sp), .val (.int k), .val (.long W), .second, .val (.long lim), .second, .val (.ref win), .val (.int (p7 &&& (3 : Int32))), .val (.ref a216), .val (.int (1 : Int32)), .val (.int (p4 &&& (127 : Int32)))] [(.ref win)])) (fun _ kk => XS.aload X234.here hx rfl (hb hby at_184) rfl rfl kk) ?_
            refine own_step (T' := T234) (g' := (mkF m 188 #[.val (.long q0), .second, .val (.int p2), .val (.int p3), .val (.int p4), .val (.long q5), .second, .val (.int p7), .val (.int sp), .val (.int k), .val (.long W), .second, .val (.long lim), .second, .val (.ref win), .val (.int (p7 &&& (3 : Int32))), .val (.ref a216), .val (.int (1 : Int32)), .val (.int (p4 &&& (127 : Int32)))] [(.ref a216), (.ref win)])) (fun _ kk => XS.aload X234.here hx rfl (hb hby at_186) rfl rfl kk) ?_
            obtain ⟨T243, L243, _, h243, X243, e243, ⟨rfl, Nq242, eh242⟩, st243⟩ := own_callV X234 hx hZ hown (w72 hw) (w73 hw) (w75 hw) (w74 hw) (w76 hw) (w3 hw) (by decide) F236.1 (g := (mkF m 188 #[.val (.long q0), .second, .val (.int p2), .val (.int p3), .val (.int p4), .val (.long q5), .second, .val (.int p7), .val (.int sp), .val (.int k), .val (.long W), .second, .val (.long lim), .second, .val (.ref win), .val (.int (p7 &&& (3 : Int32))), .val (.ref a216), .val (.int (1 : Int32)), .val (.int (p4 &&& (127 : Int32)))] [(.ref a216), (.ref win)])) rfl (by rw [hml]; rfl) (argsL := [(.ref a216)]) (rest := []) (rm_k1 l Z a0 hw win a216 a224 cA225 k (p4 &&& (127 : Int32)) _ F240 F237 F238 Fqa216 F239) e234 pd__Lcom_example_span60_span60_limit_Algorithm_State__Z rfl rfl (W := 0) (by show 2 * 0 + _ ≤ _; exact Nat.le_of_eq rfl) (hb hby at_188) (by decide) (by decide) (by decide) (by decide)
            have F244 := Fr.app F235 Nq242
            have F245 := e243.trans eh242
            refine own_step (T' := T243) (g' := (mkF m 191 #[.val (.long q0), .second, .val (.int p2), .val (.int p3), .val (.int p4), .val (.long q5), .second, .val (.int p7), .val (.int sp), .val (.int k), .val (.long W), .second, .val (.long lim), .second, .val (.ref win), .val (.int (p7 &&& (3 : Int32))), .val (.ref a216), .val (.int (1 : Int32)), .val (.int (p4 &&& (127 : Int32)))] [(.int (if (p4 &&& (127 : Int32)) = k + (1 : Int32) then (1 : Int32) else (0 : Int32)))])) (fun _ kk => st243 _ kk) ?_
            refine own_step (T' := T243) (g' := (mkF m 193 #[.val (.long q0), .second, .val (.int p2), .val (.int p3), .val (.int p4), .val (.long q5), .second, .val (.int p7), .val (.int sp), .val (.int k), .val (.long W), .second, .val (.long lim), .second, .val (.ref win), .val (.int (p7 &&& (3 : Int32))), .val (.ref a216), .val (.int (1 : Int32)), .val (.int (p4 &&& (127 : Int32)))] [(.int (1 : Int32)), (.int (if (p4 &&& (127 : Int32)) = k + (1 : Int32) then (1 : Int32) else (0 : Int32)))])) (fun _ kk => XS.iload X243.here hx rfl (hb hby at_191) rfl kk) ?_
            refine own_step (T' := T243) (g' := (mkF m 196 #[.val (.long q0), .second, .val (.int p2), .val (.int p3), .val (.int p4), .val (.long q5), .second, .val (.int p7), .val (.int sp), .val (.int k), .val (.long W), .second, .val (.long lim), .second, .val (.ref win), .val (.int (p7 &&& (3 : Int32))), .val (.ref a216), .val (.int (1 : Int32)), .val (.int (p4 &&& (127 : Int32)))] [])) (fun _ kk => XS.icmpNo X243.here hx rfl (hb hby at_193) rfl (teq (by rw [if_pos c241])).2 kk) ?_
            refine own_step (T' := T243) (g' := (mkF m 197 #[.val (.long q0), .second, .val (.int p2), .val (.int p3), .val (.int p4), .val (.long q5), .second, .val (.int p7), .val (.int sp), .val (.int k), .val (.long W), .second, .val (.long lim), .second, .val (.ref win), .val (.int (p7 &&& (3 : Int32))), .val (.ref a216), .val (.int (1 : Int32)), .val (.int (p4 &&& (127 : Int32)))] [(.int (1 : Int32))])) (fun _ kk => XS.iconst X243.here hx rfl (hb hby at_196) kk) ?_
            refine own_step (T' := T243) (g' := (mkF m 201 #[.val (.long q0), .second, .val (.int p2), .val (.int p3), .val (.int p4), .val (.long q5), .second, .val (.int p7), .val (.int sp), .val (.int k), .val (.long W), .second, .val (.long lim), .second, .val (.ref win), .val (.int (p7 &&& (3 : Int32))), .val (.ref a216), .val (.int (1 : Int32)), .val (.int (p4 &&& (127 : Int32)))] [(.int (1 : Int32))])) (fun _ kk => XS.goto X243.here hx rfl (pc0 := 197) (pc' := 201) rfl (hb hby at_197) (by decide) (by decide) kk) ?_
            exact own_retN X243 hx hlk (t := .boolean) hret (by simp) (hb hby at_201) F245 ⟨rfl, F244⟩ (by decide) (by decide)
          · refine own_step (T' := T234) (g' := (mkF m 181 #[.val (.long q0), .second, .val (.int p2), .val (.int p3), .val (.int p4), .val (.long q5), .second, .val (.int p7), .val (.int sp), .val (.int k), .val (.long W), .second, .val (.long lim), .second, .val (.ref win), .val (.int (p7 &&& (3 : Int32))), .val (.ref a216), .unset, .val (.int (p4 &&& (127 : Int32)))] [])) (fun _ kk => XS.icmpYes X234.here hx rfl (pc0 := 174) (pc' := 181) rfl (hb hby at_174) rfl (feq c241).2 (by decide) (by decide) kk) ?_
            refine own_step (T' := T234) (g' := (mkF m 182 #[.val (.long q0), .second, .val (.int p2), .val (.int p3), .val (.int p4), .val (.long q5), .second, .val (.int p7), .val (.int sp), .val (.int k), .val (.long W), .second, .val (.long lim), .second, .val (.ref win), .val (.int (p7 &&& (3 : Int32))), .val (.ref a216), .unset, .val (.int (p4 &&& (127 : Int32)))] [(.int (0 : Int32))])) (fun _ kk => XS.iconst X234.here hx rfl (hb hby at_181) kk) ?_
            refine own_step (T' := T234) (g' := (mkF m 184 #[.val (.long q0), .second, .val (.int p2), .val (.int p3), .val (.int p4), .val (.long q5), .second, .val (.int p7), .val (.int sp), .val (.int k), .val (.long W), .second, .val (.long lim), .second, .val (.ref win), .val (.int (p7 &&& (3 : Int32))), .val (.ref a216), .val (.int (0 : Int32)), .val (.int (p4 &&& (127 : Int32)))] [])) (fun _ kk => XS.istore X234.here hx rfl (hb hby at_182) rfl (l' := #[.val (.long q0), .second, .val (.int p2), .val (.int p3), .val (.int p4), .val (.long q5), .second, .val (.int p7), .val (.int sp), .val (.int k), .val (.long W), .second, .val (.long lim), .second, .val (.ref win), .val (.int (p7 &&& (3 : Int32))), .val (.ref a216), .val (.int (0 : Int32)), .val (.int (p4 &&& (127 : Int32)))]) rfl kk) ?_
            refine own_step (T' := T234) (g' := (mkF m 186 #[.val (.long q0), .second, .val (.int p2), .val (.int p3), .val (.int p4), .val (.long q5), .second, .val (.int p7), .val (.int sp), .val (.int k), .val (.long W), .second, .val (.long lim), .second, .val (.ref win), .val (.int (p7 &&& (3 : Int32))), .val (.ref a216), .val (.int (0 : Int32)), .val (.int (p4 &&& (127 : Int32)))] [(.ref win)])) (fun _ kk => XS.aload X234.here hx rfl (hb hby at_184) rfl rfl kk) ?_
            refine own_step (T' := T234) (g' := (mkF m 188 #[.val (.long q0), .second, .val (.int p2), .val (.int p3), .val (.int p4), .val (.long q5), .second, .val (.int p7), .val (.int sp), .val (.int k), .val (.long W), .second, .val (.long lim), .second, .val (.ref win), .val (.int (p7 &&& (3 : Int32))), .val (.ref a216), .val (.int (0 : Int32)), .val (.int (p4 &&& (127 : Int32)))] [(.ref a216), (.ref win)])) (fun _ kk => XS.aload X234.here hx rfl (hb hby at_186) rfl rfl kk) ?_
            obtain ⟨T247, L247, _, h247, X247, e247, ⟨rfl, Nq246, eh246⟩, st247⟩ := own_callV X234 hx hZ hown (w72 hw) (w73 hw) (w75 hw) (w74 hw) (w76 hw) (w3 hw) (by decide) F236.1 (g := (mkF m 188 #[.val (.long q0), .second, .val (.int p2), .val (.int p3), .val (.int p4), .val (.long q5), .second, .val (.int p7), .val (.int sp), .val (.int k), .val (.long W), .second, .val (.long lim), .second, .val (.ref win), .val (.int (p7 &&& (3 : Int32))), .val (.ref a216), .val (.int (0 : Int32)), .val (.int (p4 &&& (127 : Int32)))] [(.ref a216), (.ref win)])) rfl (by rw [hml]; rfl) (argsL := [(.ref a216)]) (rest := []) (rm_k1 l Z a0 hw win a216 a224 cA225 k (p4 &&& (127 : Int32)) _ F240 F237 F238 Fqa216 F239) e234 pd__Lcom_example_span60_span60_limit_Algorithm_State__Z rfl rfl (W := 0) (by show 2 * 0 + _ ≤ _; exact Nat.le_of_eq rfl) (hb hby at_188) (by decide) (by decide) (by decide) (by decide)
            have F248 := Fr.app F235 Nq246
            have F249 := e247.trans eh246
            refine own_step (T' := T247) (g' := (mkF m 191 #[.val (.long q0), .second, .val (.int p2), .val (.int p3), .val (.int p4), .val (.long q5), .second, .val (.int p7), .val (.int sp), .val (.int k), .val (.long W), .second, .val (.long lim), .second, .val (.ref win), .val (.int (p7 &&& (3 : Int32))), .val (.ref a216), .val (.int (0 : Int32)), .val (.int (p4 &&& (127 : Int32)))] [(.int (if (p4 &&& (127 : Int32)) = k + (1 : Int32) then (1 : Int32) else (0 : Int32)))])) (fun _ kk => st247 _ kk) ?_
            refine own_step (T' := T247) (g' := (mkF m 193 #[.val (.long q0), .second, .val (.int p2), .val (.int p3), .val (.int p4), .val (.long q5), .second, .val (.int p7), .val (.int sp), .val (.int k), .val (.long W), .second, .val (.long lim), .second, .val (.ref win), .val (.int (p7 &&& (3 : Int32))), .val (.ref a216), .val (.int (0 : Int32)), .val (.int (p4 &&& (127 : Int32)))] [(.int (0 : Int32)), (.int (if (p4 &&& (127 : Int32)) = k + (1 : Int32) then (1 : Int32) else (0 : Int32)))])) (fun _ kk => XS.iload X247.here hx rfl (hb hby at_191) rfl kk) ?_
            refine own_step (T' := T247) (g' := (mkF m 196 #[.val (.long q0), .second, .val (.int p2), .val (.int p3), .val (.int p4), .val (.long q5), .second, .val (.int p7), .val (.int sp), .val (.int k), .val (.long W), .second, .val (.long lim), .second, .val (.ref win), .val (.int (p7 &&& (3 : Int32))), .val (.ref a216), .val (.int (0 : Int32)), .val (.int (p4 &&& (127 : Int32)))] [])) (fun _ kk => XS.icmpNo X247.here hx rfl (hb hby at_193) rfl (teq (by rw [if_neg c241])).2 kk) ?_
            refine own_step (T' := T247) (g' := (mkF m 197 #[.val (.long q0), .second, .val (.int p2), .val (.int p3), .val (.int p4), .val (.long q5), .second, .val (.int p7), .val (.int sp), .val (.int k), .val (.long W), .second, .val (.long lim), .second, .val (.ref win), .val (.int (p7 &&& (3 : Int32))), .val (.ref a216), .val (.int (0 : Int32)), .val (.int (p4 &&& (127 : Int32)))] [(.int (1 : Int32))])) (fun _ kk => XS.iconst X247.here hx rfl (hb hby at_196) kk) ?_
            refine own_step (T' := T247) (g' := (mkF m 201 #[.val (.long q0), .second, .val (.int p2), .val (.int p3), .val (.int p4), .val (.long q5), .second, .val (.int p7), .val (.int sp), .val (.int k), .val (.long W), .second, .val (.long lim), .second, .val (.ref win), .val (.int (p7 &&& (3 : Int32))), .val (.ref a216), .val (.int (0 : Int32)), .val (.int (p4 &&& (127 : Int32)))] [(.int (1 : Int32))])) (fun _ kk => XS.goto X247.here hx rfl (pc0 := 197) (pc' := 201) rfl (hb hby at_197) (by decide) (by decide) kk) ?_
            exact own_retN X247 hx hlk (t := .boolean) hret (by simp) (hb hby at_201) F249 ⟨rfl, F248⟩ (by decide) (by decide)
        · refine own_step (T' := T) (g' := (mkF m 142 #[.val (.long q0), .second, .val (.int p2), .val (.int p3), .val (.int p4), .val (.long q5), .second, .val (.int p7), .val (.int sp), .val (.int k), .val (.long W), .second, .val (.long lim), .second, .val (.ref win), .val (.int (p7 &&& (3 : Int32))), .unset, .unset, .unset] [])) (fun _ kk => XS.icmpYes X1.here hx rfl (pc0 := 131) (pc' := 142) rfl (hb hby at_131) rfl (feq c215).2 (by decide) (by decide) kk) ?_
          refine own_step (T' := T) (g' := (mkF m 144 #[.val (.long q0), .second, .val (.int p2), .val (.int p3), .val (.int p4), .val (.long q5), .second, .val (.int p7), .val (.int sp), .val (.int k), .val (.long W), .second, .val (.long lim), .second, .val (.ref win), .val (.int (p7 &&& (3 : Int32))), .unset, .unset, .unset] [(.int k)])) (fun _ kk => XS.iload X1.here hx rfl (hb hby at_142) rfl kk) ?_
          refine own_step (T' := T) (g' := (mkF m 145 #[.val (.long q0), .second, .val (.int p2), .val (.int p3), .val (.int p4), .val (.long q5), .second, .val (.int p7), .val (.int sp), .val (.int k), .val (.long W), .second, .val (.long lim), .second, .val (.ref win), .val (.int (p7 &&& (3 : Int32))), .unset, .unset, .unset] [(.int (1 : Int32)), (.int k)])) (fun _ kk => XS.iconst X1.here hx rfl (hb hby at_144) kk) ?_
          refine own_step (T' := T) (g' := (mkF m 146 #[.val (.long q0), .second, .val (.int p2), .val (.int p3), .val (.int p4), .val (.long q5), .second, .val (.int p7), .val (.int sp), .val (.int k), .val (.long W), .second, .val (.long lim), .second, .val (.ref win), .val (.int (p7 &&& (3 : Int32))), .unset, .unset, .unset] [(.int (k - (1 : Int32)))])) (fun _ kk => XS.isub X1.here hx rfl (hb hby at_145) rfl kk) ?_
          refine own_step (T' := T) (g' := (mkF m 148 #[.val (.long q0), .second, .val (.int p2), .val (.int p3), .val (.int p4), .val (.long q5), .second, .val (.int p7), .val (.int sp), .val (.int k), .val (.long W), .second, .val (.long lim), .second, .val (.ref win), .val (.int (p7 &&& (3 : Int32))), .unset, .unset, .unset] [(.int p4), (.int (k - (1 : Int32)))])) (fun _ kk => XS.iload X1.here hx rfl (hb hby at_146) rfl kk) ?_
          refine own_step (T' := T) (g' := (mkF m 149 #[.val (.long q0), .second, .val (.int p2), .val (.int p3), .val (.int p4), .val (.long q5), .second, .val (.int p7), .val (.int sp), .val (.int k), .val (.long W), .second, .val (.long lim), .second, .val (.ref win), .val (.int (p7 &&& (3 : Int32))), .unset, .unset, .unset] [(.int (3 : Int32)), (.int p4), (.int (k - (1 : Int32)))])) (fun _ kk => XS.iconst X1.here hx rfl (hb hby at_148) kk) ?_
          refine own_step (T' := T) (g' := (mkF m 150 #[.val (.long q0), .second, .val (.int p2), .val (.int p3), .val (.int p4), .val (.long q5), .second, .val (.int p7), .val (.int sp), .val (.int k), .val (.long W), .second, .val (.long lim), .second, .val (.ref win), .val (.int (p7 &&& (3 : Int32))), .unset, .unset, .unset] [(.int (p4 &&& (3 : Int32))), (.int (k - (1 : Int32)))])) (fun _ kk => XS.iand X1.here hx rfl (hb hby at_149) rfl kk) ?_
          refine own_step (T' := T) (g' := (mkF m 151 #[.val (.long q0), .second, .val (.int p2), .val (.int p3), .val (.int p4), .val (.long q5), .second, .val (.int p7), .val (.int sp), .val (.int k), .val (.long W), .second, .val (.long lim), .second, .val (.ref win), .val (.int (p7 &&& (3 : Int32))), .unset, .unset, .unset] [(.int ((k - (1 : Int32)) + (p4 &&& (3 : Int32))))])) (fun _ kk => XS.iadd X1.here hx rfl (hb hby at_150) rfl kk) ?_
          refine own_step (T' := T) (g' := (mkF m 153 #[.val (.long q0), .second, .val (.int p2), .val (.int p3), .val (.int p4), .val (.long q5), .second, .val (.int p7), .val (.int sp), .val (.int k), .val (.long W), .second, .val (.long lim), .second, .val (.ref win), .val (.int (p7 &&& (3 : Int32))), .unset, .unset, .val (.int ((k - (1 : Int32)) + (p4 &&& (3 : Int32))))] [])) (fun _ kk => XS.istore X1.here hx rfl (hb hby at_151) rfl (l' := #[.val (.long q0), .second, .val (.int p2), .val (.int p3), .val (.int p4), .val (.long q5), .second, .val (.int p7), .val (.int sp), .val (.int k), .val (.long W), .second, .val (.long lim), .second, .val (.ref win), .val (.int (p7 &&& (3 : Int32))), .unset, .unset, .val (.int ((k - (1 : Int32)) + (p4 &&& (3 : Int32))))]) rfl kk) ?_
          obtain ⟨T251, h251, X251, e251, E251, A251, D251, U251, st251⟩ := newO X1 hx hZ hown (w55 hw) (w56 hw) (w57 hw) e1 (g := (mkF m 153 #[.val (.long q0), .second, .val (.int p2), .val (.int p3), .val (.int p4), .val (.long q5), .second, .val (.int p7), .val (.int sp), .val (.int k), .val (.long W), .second, .val (.long lim), .second, .val (.ref win), .val (.int (p7 &&& (3 : Int32))), .unset, .unset, .val (.int ((k - (1 : Int32)) + (p4 &&& (3 : Int32))))] [])) rfl (hb hby at_153) (by decide) (by decide)
          obtain ⟨a250, g251⟩ : ∃ z, z = h.size := ⟨_, rfl⟩
          rw [← g251] at A251 D251 U251 st251
          have ne252 : win ≠ a250 := Nat.ne_of_lt (by rw [g251]; exact Ob.lt)
          have ge253 : Z.heap.size ≤ a250 := by rw [g251]; exact O1.2.1
          have F254 := Ob.ext E251
          have F255 := Fk.ext E251
          have F256 := O1.ext E251
          have F257 : own_Obj Z h251 a250 "com/example/span60/span60/limit/SlidingWindow$State" := own_Obj.new A251 U251
          refine own_step (T' := T251) (g' := (mkF m 156 #[.val (.long q0), .second, .val (.int p2), .val (.int p3), .val (.int p4), .val (.long q5), .second, .val (.int p7), .val (.int sp), .val (.int k), .val (.long W), .second, .val (.long lim), .second, .val (.ref win), .val (.int (p7 &&& (3 : Int32))), .unset, .unset, .val (.int ((k - (1 : Int32)) + (p4 &&& (3 : Int32))))] [(.ref a250)])) (fun _ kk => st251 _ kk) ?_
          refine own_step (T' := T251) (g' := (mkF m 157 #[.val (.long q0), .second, .val (.int p2), .val (.int p3), .val (.int p4), .val (.long q5), .second, .val (.int p7), .val (.int sp), .val (.int k), .val (.long W), .second, .val (.long lim), .second, .val (.ref win), .val (.int (p7 &&& (3 : Int32))), .unset, .unset, .val (.int ((k - (1 : Int32)) + (p4 &&& (3 : Int32))))] [(.ref a250), (.ref a250)])) (fun _ kk => XS.dup X251.here hx rfl (hb hby at_156) rfl rfl kk) ?_
          refine own_step (T' := T251) (g' := (mkF m 159 #[.val (.long q0), .second, .val (.int p2), .val (.int p3), .val (.int p4), .val (.long q5), .second, .val (.int p7), .val (.int sp), .val (.int k), .val (.long W), .second, .val (.long lim), .second, .val (.ref win), .val (.int (p7 &&& (3 : Int32))), .unset, .unset, .val (.int ((k - (1 : Int32)) + (p4 &&& (3 : Int32))))] [(.int ((k - (1 : Int32)) + (p4 &&& (3 : Int32)))), (.ref a250), (.ref a250)])) (fun _ kk => XS.iload X251.here hx rfl (hb hby at_157) rfl kk) ?_
          obtain ⟨T259, h259, cA259, X259, e259, E259, A259, st259⟩ := newP X251 hx hZ (aty := .long) (w58 hw) e251 (g := (mkF m 159 #[.val (.long q0), .second, .val (.int p2), .val (.int p3), .val (.int p4), .val (.long q5), .second, .val (.int p7), .val (.int sp), .val (.int k), .val (.long W), .second, .val (.long lim), .second, .val (.ref win), .val (.int (p7 &&& (3 : Int32))), .unset, .unset, .val (.int ((k - (1 : Int32)) + (p4 &&& (3 : Int32))))] [(.int ((k - (1 : Int32)) + (p4 &&& (3 : Int32)))), (.ref a250), (.ref a250)])) rfl (hb hby at_159) rfl (own_nneg (own_len3 c1 c2).1) (cap := 127) (own_cap (own_len3 c1 c2).2) (by decide) (by decide) (by decide)
          obtain ⟨a258, g259⟩ : ∃ z, z = h251.size := ⟨_, rfl⟩
          rw [← g259] at A259 st259
          have ne260 : win ≠ a258 := Nat.ne_of_lt (by rw [g259]; exact F254.lt)
          have ne261 : a250 ≠ a258 := Nat.ne_of_lt (by rw [g259]; exact F257.lt)
          have ge262 : Z.heap.size ≤ a258 := by rw [g259]; exact F256.2.1
          have F263 := F254.ext E259
          have F264 := F255.ext E259
          have F265 := F257.ext E259
          have F266 := F256.ext E259
          have F267 : Arv Z h259 a258 cA259 .long ((k - (1 : Int32)) + (p4 &&& (3 : Int32))) [] (.long 0) := Arv.new A259 (own_nneg (own_len3 c1 c2).1)
          refine own_step (T' := T259) (g' := (mkF m 161 #[.val (.long q0), .second, .val (.int p2), .val (.int p3), .val (.int p4), .val (.long q5), .second, .val (.int p7), .val (.int sp), .val (.int k), .val (.long W), .second, .val (.long lim), .second, .val (.ref win), .val (.int (p7 &&& (3 : Int32))), .unset, .unset, .val (.int ((k - (1 : Int32)) + (p4 &&& (3 : Int32))))] [(.ref a258), (.ref a250), (.ref a250)])) (fun _ kk => st259 _ kk) ?_
          refine own_step (T' := T259) (g' := (mkF m 163 #[.val (.long q0), .second, .val (.int p2), .val (.int p3), .val (.int p4), .val (.long q5), .second, .val (.int p7), .val (.int sp), .val (.int k), .val (.long W), .second, .val (.long lim), .second, .val (.ref win), .val (.int (p7 &&& (3 : Int32))), .unset, .unset, .val (.int ((k - (1 : Int32)) + (p4 &&& (3 : Int32))))] [(.long q5), (.ref a258), (.ref a250), (.ref a250)])) (fun _ kk => XS.lload X259.here hx rfl (hb hby at_161) rfl kk) ?_
          obtain ⟨T268, L268, _, h268, X268, e268, ⟨rfl, Nqa250, Kqa250, Oqa250, Fqa250⟩, st268⟩ := own_callC X259 hx hZ hown rfl (w59 hw) (w60 hw) (w61 hw) (w57 hw) (by decide) (a := a250) (g := (mkF m 163 #[.val (.long q0), .second, .val (.int p2), .val (.int p3), .val (.int p4), .val (.long q5), .second, .val (.int p7), .val (.int sp), .val (.int k), .val (.long W), .second, .val (.long lim), .second, .val (.ref win), .val (.int (p7 &&& (3 : Int32))), .unset, .unset, .val (.int ((k - (1 : Int32)) + (p4 &&& (3 : Int32))))] [(.long q5), (.ref a258), (.ref a250), (.ref a250)])) rfl (by rw [hml]; rfl) (argsL := [(.ref a258), (.long q5)]) (rest := [(.ref a250)]) (rm_sti l Z a0 hw a250 a258 q5 _ F266 F265 ge253) e259 pd___JJ_V rfl rfl (W := 1) (by show 2 * 0 + _ ≤ _; exact Nat.le_of_eq rfl) (hb hby at_163) (by decide) (by decide) (by decide) (by decide)
          have F269 := Fr.app N1 Nqa250
          have F270 := F263.keep Kqa250
          have F271 := F264.keep Kqa250 (ninS ne252 nin0)
          have F272 := F265.keep Kqa250
          have F273 := F267.keep Kqa250 (ninS (Ne.symm ne261) nin0)
          have F274 := F266.keep Kqa250 (allS ge253 all0)
          refine own_step (T' := T268) (g' := (mkF m 166 #[.val (.long q0), .second, .val (.int p2), .val (.int p3), .val (.int p4), .val (.long q5), .second, .val (.int p7), .val (.int sp), .val (.int k), .val (.long W), .second, .val (.long lim), .second, .val (.ref win), .val (.int (p7 &&& (3 : Int32))), .unset, .unset, .val (.int ((k - (1 : Int32)) + (p4 &&& (3 : Int32))))] [(.ref a250)])) (fun _ kk => st268 _ kk) ?_
          refine own_step (T' := T268) (g' := (mkF m 168 #[.val (.long q0), .second, .val (.int p2), .val (.int p3), .val (.int p4), .val (.long q5), .second, .val (.int p7), .val (.int sp), .val (.int k), .val (.long W), .second, .val (.long lim), .second, .val (.ref win), .val (.int (p7 &&& (3 : Int32))), .val (.ref a250), .unset, .val (.int ((k - (1 : Int32)) + (p4 &&& (3 : Int32))))] [])) (fun _ kk => XS.astore X268.here hx rfl (hb hby at_166) rfl rfl (l' := #[.val (.long q0), .second, .val (.int p2), .val (.int p3), .val (.int p4), .val (.long q5), .second, .val (.int p7), .val (.int sp), .val (.int k), .val (.long W), .second, .val (.long lim), .second, .val (.ref win), .val (.int (p7 &&& (3 : Int32))), .val (.ref a250), .unset, .val (.int ((k - (1 : Int32)) + (p4 &&& (3 : Int32))))]) rfl kk) ?_
          refine own_step (T' := T268) (g' := (mkF m 170 #[.val (.long q0), .second, .val (.int p2), .val (.int p3), .val (.int p4), .val (.long q5), .second, .val (.int p7), .val (.int sp), .val (.int k), .val (.long W), .second, .val (.long lim), .second, .val (.ref win), .val (.int (p7 &&& (3 : Int32))), .val (.ref a250), .unset, .val (.int ((k - (1 : Int32)) + (p4 &&& (3 : Int32))))] [(.int ((k - (1 : Int32)) + (p4 &&& (3 : Int32))))])) (fun _ kk => XS.iload X268.here hx rfl (hb hby at_168) rfl kk) ?_
          refine own_step (T' := T268) (g' := (mkF m 172 #[.val (.long q0), .second, .val (.int p2), .val (.int p3), .val (.int p4), .val (.long q5), .second, .val (.int p7), .val (.int sp), .val (.int k), .val (.long W), .second, .val (.long lim), .second, .val (.ref win), .val (.int (p7 &&& (3 : Int32))), .val (.ref a250), .unset, .val (.int ((k - (1 : Int32)) + (p4 &&& (3 : Int32))))] [(.int k), (.int ((k - (1 : Int32)) + (p4 &&& (3 : Int32))))])) (fun _ kk => XS.iload X268.here hx rfl (hb hby at_170) rfl kk) ?_
          refine own_step (T' := T268) (g' := (mkF m 173 #[.val (.long q0), .second, .val (.int p2), .val (.int p3), .val (.int p4), .val (.long q5), .second, .val (.int p7), .val (.int sp), .val (.int k), .val (.long W), .second, .val (.long lim), .second, .val (.ref win), .val (.int (p7 &&& (3 : Int32))), .val (.ref a250), .unset, .val (.int ((k - (1 : Int32)) + (p4 &&& (3 : Int32))))] [(.int (1 : Int32)), (.int k), (.int ((k - (1 : Int32)) + (p4 &&& (3 : Int32))))])) (fun _ kk => XS.iconst X268.here hx rfl (hb hby at_172) kk) ?_
          refine own_step (T' := T268) (g' := (mkF m 174 #[.val (.long q0), .second, .val (.int p2), .val (.int p3), .val (.int p4), .val (.long q5), .second, .val (.int p7), .val (.int sp), .val (.int k), .val (.long W), .second, .val (.long lim), .second, .val (.ref win), .val (.int (p7 &&& (3 : Int32))), .val (.ref a250), .unset, .val (.int ((k - (1 : Int32)) + (p4 &&& (3 : Int32))))] [(.int (k + (1 : Int32))), (.int ((k - (1 : Int32)) + (p4 &&& (3 : Int32))))])) (fun _ kk => XS.iadd X268.here hx rfl (hb hby at_173) rfl kk) ?_
          by_cases c275 : ((k - (1 : Int32)) + (p4 &&& (3 : Int32))) = (k + (1 : Int32))
          · refine own_step (T' := T268) (g' := (mkF m 177 #[.val (.long q0), .second, .val (.int p2), .val (.int p3), .val (.int p4), .val (.long q5), .second, .val (.int p7), .val (.int sp), .val (.int k), .val (.long W), .second, .val (.long lim), .second, .val (.ref win), .val (.int (p7 &&& (3 : Int32))), .val (.ref a250), .unset, .val (.int ((k - (1 : Int32)) + (p4 &&& (3 : Int32))))] [])) (fun _ kk => XS.icmpNo X268.here hx rfl (hb hby at_174) rfl (teq c275).2 kk) ?_
            refine own_step (T' := T268) (g' := (mkF m 178 #[.val (.long q0), .second, .val (.int p2), .val (.int p3), .val (.int p4), .val (.long q5), .second, .val (.int p7), .val (.int sp), .val (.int k), .val (.long W), .second, .val (.long lim), .second, .val (.ref win), .val (.int (p7 &&& (3 : Int32))), .val (.ref a250), .unset, .val (.int ((k - (1 : Int32)) + (p4 &&& (3 : Int32))))] [(.int (1 : Int32))])) (fun _ kk => XS.iconst X268.here hx rfl (hb hby at_177) kk) ?_
            refine own_step (T' := T268) (g' := (mkF m 182 #[.val (.long q0), .second, .val (.int p2), .val (.int p3), .val (.int p4), .val (.long q5), .second, .val (.int p7), .val (.int sp), .val (.int k), .val (.long W), .second, .val (.long lim), .second, .val (.ref win), .val (.int (p7 &&& (3 : Int32))), .val (.ref a250), .unset, .val (.int ((k - (1 : Int32)) + (p4 &&& (3 : Int32))))] [(.int (1 : Int32))])) (fun _ kk => XS.goto X268.here hx rfl (pc0 := 178) (pc' := 182) rfl (hb hby at_178) (by decide) (by decide) kk) ?_
            refine own_step (T' := T268) (g' := (mkF m 184 #[.val (.long q0), .second, .val (.int p2), .val (.int p3), .val (.int p4), .val (.long q5), .second, .val (.int p7), .val (.int sp), .val (.int k), .val (.long W), .second, .val (.long lim), .second, .val (.ref win), .val (.int (p7 &&& (3 : Int32))), .val (.ref a250), .val (.int (1 : Int32)), .val (.int ((k - (1 : Int32)) + (p4 &&& (3 : Int32))))] [])) (fun _ kk => XS.istore X268.here hx rfl (hb hby at_182) rfl (l' := #[.val (.long q0), .second, .val (.int p2), .val (.int p3), .val (.int p4), .val (.long q5), .second, .val (.int p7), .val (.int sp), .val (.int k), .val (.long W), .second, .val (.long lim), .second, .val (.ref win), .val (.int (p7 &&& (3 : Int32))), .val (.ref a250), .val (.int (1 : Int32)), .val (.int ((k - (1 : Int32)) + (p4 &&& (3 : Int32))))]) rfl kk) ?_
            refine own_step (T' := T268) (g' := (mkF m 186 #[.val (.long q0), .second, .val (.int p2), .val (.int p3), .val (.int p4), .val (.long q5), .second, .val (.int p7), .val (.int sp), .val (.int k), .val (.long W), .second, .val (.long lim), .second, .val (.ref win), .val (.int (p7 &&& (3 : Int32))), .val (.ref a250), .val (.int (1 : Int32)), .val (.int ((k - (1 : Int32)) + (p4 &&& (3 : Int32))))] [(.ref win)])) (fun _ kk => XS.aload X268.here hx rfl (hb hby at_184) rfl rfl kk) ?_
            refine own_step (T' := T268) (g' := (mkF m 188 #[.val (.long q0), .second, .val (.int p2), .val (.int p3), .val (.int p4), .val (.long q5), .second, .val (.int p7), .val (.int sp), .val (.int k), .val (.long W), .second, .val (.long lim), .second, .val (.ref win), .val (.int (p7 &&& (3 : Int32))), .val (.ref a250), .val (.int (1 : Int32)), .val (.int ((k - (1 : Int32)) + (p4 &&& (3 : Int32))))] [(.ref a250), (.ref win)])) (fun _ kk => XS.aload X268.here hx rfl (hb hby at_186) rfl rfl kk) ?_
            obtain ⟨T277, L277, _, h277, X277, e277, ⟨rfl, Nq276, eh276⟩, st277⟩ := own_callV X268 hx hZ hown (w72 hw) (w73 hw) (w75 hw) (w74 hw) (w76 hw) (w3 hw) (by decide) F270.1 (g := (mkF m 188 #[.val (.long q0), .second, .val (.int p2), .val (.int p3), .val (.int p4), .val (.long q5), .second, .val (.int p7), .val (.int sp), .val (.int k), .val (.long W), .second, .val (.long lim), .second, .val (.ref win), .val (.int (p7 &&& (3 : Int32))), .val (.ref a250), .val (.int (1 : Int32)), .val (.int ((k - (1 : Int32)) + (p4 &&& (3 : Int32))))] [(.ref a250), (.ref win)])) rfl (by rw [hml]; rfl) (argsL := [(.ref a250)]) (rest := []) (rm_k1 l Z a0 hw win a250 a258 cA259 k ((k - (1 : Int32)) + (p4 &&& (3 : Int32))) _ F274 F271 F272 Fqa250 F273) e268 pd__Lcom_example_span60_span60_limit_Algorithm_State__Z rfl rfl (W := 0) (by show 2 * 0 + _ ≤ _; exact Nat.le_of_eq rfl) (hb hby at_188) (by decide) (by decide) (by decide) (by decide)
            have F278 := Fr.app F269 Nq276
            have F279 := e277.trans eh276
            refine own_step (T' := T277) (g' := (mkF m 191 #[.val (.long q0), .second, .val (.int p2), .val (.int p3), .val (.int p4), .val (.long q5), .second, .val (.int p7), .val (.int sp), .val (.int k), .val (.long W), .second, .val (.long lim), .second, .val (.ref win), .val (.int (p7 &&& (3 : Int32))), .val (.ref a250), .val (.int (1 : Int32)), .val (.int ((k - (1 : Int32)) + (p4 &&& (3 : Int32))))] [(.int (if ((k - (1 : Int32)) + (p4 &&& (3 : Int32))) = k + (1 : Int32) then (1 : Int32) else (0 : Int32)))])) (fun _ kk => st277 _ kk) ?_
            refine own_step (T' := T277) (g' := (mkF m 193 #[.val (.long q0), .second, .val (.int p2), .val (.int p3), .val (.int p4), .val (.long q5), .second, .val (.int p7), .val (.int sp), .val (.int k), .val (.long W), .second, .val (.long lim), .second, .val (.ref win), .val (.int (p7 &&& (3 : Int32))), .val (.ref a250), .val (.int (1 : Int32)), .val (.int ((k - (1 : Int32)) + (p4 &&& (3 : Int32))))] [(.int (1 : Int32)), (.int (if ((k - (1 : Int32)) + (p4 &&& (3 : Int32))) = k + (1 : Int32) then (1 : Int32) else (0 : Int32)))])) (fun _ kk => XS.iload X277.here hx rfl (hb hby at_191) rfl kk) ?_
            refine own_step (T' := T277) (g' := (mkF m 196 #[.val (.long q0), .second, .val (.int p2), .val (.int p3), .val (.int p4), .val (.long q5), .second, .val (.int p7), .val (.int sp), .val (.int k), .val (.long W), .second, .val (.long lim), .second, .val (.ref win), .val (.int (p7 &&& (3 : Int32))), .val (.ref a250), .val (.int (1 : Int32)), .val (.int ((k - (1 : Int32)) + (p4 &&& (3 : Int32))))] [])) (fun _ kk => XS.icmpNo X277.here hx rfl (hb hby at_193) rfl (teq (by rw [if_pos c275])).2 kk) ?_
            refine own_step (T' := T277) (g' := (mkF m 197 #[.val (.long q0), .second, .val (.int p2), .val (.int p3), .val (.int p4), .val (.long q5), .second, .val (.int p7), .val (.int sp), .val (.int k), .val (.long W), .second, .val (.long lim), .second, .val (.ref win), .val (.int (p7 &&& (3 : Int32))), .val (.ref a250), .val (.int (1 : Int32)), .val (.int ((k - (1 : Int32)) + (p4 &&& (3 : Int32))))] [(.int (1 : Int32))])) (fun _ kk => XS.iconst X277.here hx rfl (hb hby at_196) kk) ?_
            refine own_step (T' := T277) (g' := (mkF m 201 #[.val (.long q0), .second, .val (.int p2), .val (.int p3), .val (.int p4), .val (.long q5), .second, .val (.int p7), .val (.int sp), .val (.int k), .val (.long W), .second, .val (.long lim), .second, .val (.ref win), .val (.int (p7 &&& (3 : Int32))), .val (.ref a250), .val (.int (1 : Int32)), .val (.int ((k - (1 : Int32)) + (p4 &&& (3 : Int32))))] [(.int (1 : Int32))])) (fun _ kk => XS.goto X277.here hx rfl (pc0 := 197) (pc' := 201) rfl (hb hby at_197) (by decide) (by decide) kk) ?_
            exact own_retN X277 hx hlk (t := .boolean) hret (by simp) (hb hby at_201) F279 ⟨rfl, F278⟩ (by decide) (by decide)
          · refine own_step (T' := T268) (g' := (mkF m 181 #[.val (.long q0), .second, .val (.int p2), .val (.int p3), .val (.int p4), .val (.long q5), .second, .val (.int p7), .val (.int sp), .val (.int k), .val (.long W), .second, .val (.long lim), .second, .val (.ref win), .val (.int (p7 &&& (3 : Int32))), .val (.ref a250), .unset, .val (.int ((k - (1 : Int32)) + (p4 &&& (3 : Int32))))] [])) (fun _ kk => XS.icmpYes X268.here hx rfl (pc0 := 174) (pc' := 181) rfl (hb hby at_174) rfl (feq c275).2 (by decide) (by decide) kk) ?_
            refine own_step (T' := T268) (g' := (mkF m 182 #[.val (.long q0), .second, .val (.int p2), .val (.int p3), .val (.int p4), .val (.long q5), .second, .val (.int p7), .val (.int sp), .val (.int k), .val (.long W), .second, .val (.long lim), .second, .val (.ref win), .val (.int (p7 &&& (3 : Int32))), .val (.ref a250), .unset, .val (.int ((k - (1 : Int32)) + (p4 &&& (3 : Int32))))] [(.int (0 : Int32))])) (fun _ kk => XS.iconst X268.here hx rfl (hb hby at_181) kk) ?_
            refine own_step (T' := T268) (g' := (mkF m 184 #[.val (.long q0), .second, .val (.int p2), .val (.int p3), .val (.int p4), .val (.long q5), .second, .val (.int p7), .val (.int sp), .val (.int k), .val (.long W), .second, .val (.long lim), .second, .val (.ref win), .val (.int (p7 &&& (3 : Int32))), .val (.ref a250), .val (.int (0 : Int32)), .val (.int ((k - (1 : Int32)) + (p4 &&& (3 : Int32))))] [])) (fun _ kk => XS.istore X268.here hx rfl (hb hby at_182) rfl (l' := #[.val (.long q0), .second, .val (.int p2), .val (.int p3), .val (.int p4), .val (.long q5), .second, .val (.int p7), .val (.int sp), .val (.int k), .val (.long W), .second, .val (.long lim), .second, .val (.ref win), .val (.int (p7 &&& (3 : Int32))), .val (.ref a250), .val (.int (0 : Int32)), .val (.int ((k - (1 : Int32)) + (p4 &&& (3 : Int32))))]) rfl kk) ?_
            refine own_step (T' := T268) (g' := (mkF m 186 #[.val (.long q0), .second, .val (.int p2), .val (.int p3), .val (.int p4), .val (.long q5), .second, .val (.int p7), .val (.int sp), .val (.int k), .val (.long W), .second, .val (.long lim), .second, .val (.ref win), .val (.int (p7 &&& (3 : Int32))), .val (.ref a250), .val (.int (0 : Int32)), .val (.int ((k - (1 : Int32)) + (p4 &&& (3 : Int32))))] [(.ref win)])) (fun _ kk => XS.aload X268.here hx rfl (hb hby at_184) rfl rfl kk) ?_
            refine own_step (T' := T268) (g' := (mkF m 188 #[.val (.long q0), .second, .val (.int p2), .val (.int p3), .val (.int p4), .val (.long q5), .second, .val (.int p7), .val (.int sp), .val (.int k), .val (.long W), .second, .val (.long lim), .second, .val (.ref win), .val (.int (p7 &&& (3 : Int32))), .val (.ref a250), .val (.int (0 : Int32)), .val (.int ((k - (1 : Int32)) + (p4 &&& (3 : Int32))))] [(.ref a250), (.ref win)])) (fun _ kk => XS.aload X268.here hx rfl (hb hby at_186) rfl rfl kk) ?_
            obtain ⟨T281, L281, _, h281, X281, e281, ⟨rfl, Nq280, eh280⟩, st281⟩ := own_callV X268 hx hZ hown (w72 hw) (w73 hw) (w75 hw) (w74 hw) (w76 hw) (w3 hw) (by decide) F270.1 (g := (mkF m 188 #[.val (.long q0), .second, .val (.int p2), .val (.int p3), .val (.int p4), .val (.long q5), .second, .val (.int p7), .val (.int sp), .val (.int k), .val (.long W), .second, .val (.long lim), .second, .val (.ref win), .val (.int (p7 &&& (3 : Int32))), .val (.ref a250), .val (.int (0 : Int32)), .val (.int ((k - (1 : Int32)) + (p4 &&& (3 : Int32))))] [(.ref a250), (.ref win)])) rfl (by rw [hml]; rfl) (argsL := [(.ref a250)]) (rest := []) (rm_k1 l Z a0 hw win a250 a258 cA259 k ((k - (1 : Int32)) + (p4 &&& (3 : Int32))) _ F274 F271 F272 Fqa250 F273) e268 pd__Lcom_example_span60_span60_limit_Algorithm_State__Z rfl rfl (W := 0) (by show 2 * 0 + _ ≤ _; exact Nat.le_of_eq rfl) (hb hby at_188) (by decide) (by decide) (by decide) (by decide)
            have F282 := Fr.app F269 Nq280
            have F283 := e281.trans eh280
            refine own_step (T' := T281) (g' := (mkF m 191 #[.val (.long q0), .second, .val (.int p2), .val (.int p3), .val (.int p4), .val (.long q5), .second, .val (.int p7), .val (.int sp), .val (.int k), .val (.long W), .second, .val (.long lim), .second, .val (.ref win), .val (.int (p7 &&& (3 : Int32))), .val (.ref a250), .val (.int (0 : Int32)), .val (.int ((k - (1 : Int32)) + (p4 &&& (3 : Int32))))] [(.int (if ((k - (1 : Int32)) + (p4 &&& (3 : Int32))) = k + (1 : Int32) then (1 : Int32) else (0 : Int32)))])) (fun _ kk => st281 _ kk) ?_
            refine own_step (T' := T281) (g' := (mkF m 193 #[.val (.long q0), .second, .val (.int p2), .val (.int p3), .val (.int p4), .val (.long q5), .second, .val (.int p7), .val (.int sp), .val (.int k), .val (.long W), .second, .val (.long lim), .second, .val (.ref win), .val (.int (p7 &&& (3 : Int32))), .val (.ref a250), .val (.int (0 : Int32)), .val (.int ((k - (1 : Int32)) + (p4 &&& (3 : Int32))))] [(.int (0 : Int32)), (.int (if ((k - (1 : Int32)) + (p4 &&& (3 : Int32))) = k + (1 : Int32) then (1 : Int32) else (0 : Int32)))])) (fun _ kk => XS.iload X281.here hx rfl (hb hby at_191) rfl kk) ?_
            refine own_step (T' := T281) (g' := (mkF m 196 #[.val (.long q0), .second, .val (.int p2), .val (.int p3), .val (.int p4), .val (.long q5), .second, .val (.int p7), .val (.int sp), .val (.int k), .val (.long W), .second, .val (.long lim), .second, .val (.ref win), .val (.int (p7 &&& (3 : Int32))), .val (.ref a250), .val (.int (0 : Int32)), .val (.int ((k - (1 : Int32)) + (p4 &&& (3 : Int32))))] [])) (fun _ kk => XS.icmpNo X281.here hx rfl (hb hby at_193) rfl (teq (by rw [if_neg c275])).2 kk) ?_
            refine own_step (T' := T281) (g' := (mkF m 197 #[.val (.long q0), .second, .val (.int p2), .val (.int p3), .val (.int p4), .val (.long q5), .second, .val (.int p7), .val (.int sp), .val (.int k), .val (.long W), .second, .val (.long lim), .second, .val (.ref win), .val (.int (p7 &&& (3 : Int32))), .val (.ref a250), .val (.int (0 : Int32)), .val (.int ((k - (1 : Int32)) + (p4 &&& (3 : Int32))))] [(.int (1 : Int32))])) (fun _ kk => XS.iconst X281.here hx rfl (hb hby at_196) kk) ?_
            refine own_step (T' := T281) (g' := (mkF m 201 #[.val (.long q0), .second, .val (.int p2), .val (.int p3), .val (.int p4), .val (.long q5), .second, .val (.int p7), .val (.int sp), .val (.int k), .val (.long W), .second, .val (.long lim), .second, .val (.ref win), .val (.int (p7 &&& (3 : Int32))), .val (.ref a250), .val (.int (0 : Int32)), .val (.int ((k - (1 : Int32)) + (p4 &&& (3 : Int32))))] [(.int (1 : Int32))])) (fun _ kk => XS.goto X281.here hx rfl (pc0 := 197) (pc' := 201) rfl (hb hby at_197) (by decide) (by decide) kk) ?_
            exact own_retN X281 hx hlk (t := .boolean) hret (by simp) (hb hby at_201) F283 ⟨rfl, F282⟩ (by decide) (by decide)
  refine own_step (T' := s₁) (g' := (mkF m 2 #[.val (.long q0), .second, .val (.int p2), .val (.int p3), .val (.int p4), .val (.long q5), .second, .val (.int p7), .unset, .unset, .unset, .unset, .unset, .unset, .unset, .unset, .unset, .unset, .unset] [(.int p7)])) (fun _ kk => XS.iload X0.here hx rfl (hb hby at_0) rfl kk) ?_
  refine own_step (T' := s₁) (g' := (mkF m 3 #[.val (.long q0), .second, .val (.int p2), .val (.int p3), .val (.int p4), .val (.long q5), .second, .val (.int p7), .unset, .unset, .unset, .unset, .unset, .unset, .unset, .unset, .unset, .unset, .unset] [(.int (4 : Int32)), (.int p7)])) (fun _ kk => XS.iconst X0.here hx rfl (hb hby at_2) kk) ?_
  refine own_step (T' := s₁) (g' := (mkF m 4 #[.val (.long q0), .second, .val (.int p2), .val (.int p3), .val (.int p4), .val (.long q5), .second, .val (.int p7), .unset, .unset, .unset, .unset, .unset, .unset, .unset, .unset, .unset, .unset, .unset] [(.int (p7 &&& (4 : Int32)))])) (fun _ kk => XS.iand X0.here hx rfl (hb hby at_3) rfl kk) ?_
  by_cases c284 : (p7 &&& (4 : Int32)) = (0 : Int32)
  · refine own_step (T' := s₁) (g' := (mkF m 11 #[.val (.long q0), .second, .val (.int p2), .val (.int p3), .val (.int p4), .val (.long q5), .second, .val (.int p7), .unset, .unset, .unset, .unset, .unset, .unset, .unset, .unset, .unset, .unset, .unset] [])) (fun _ kk => XS.ifYes X0.here hx rfl (pc0 := 4) (pc' := 11) rfl (hb hby at_4) rfl ((if0 _ _).trans (teq c284).1) (by decide) (by decide) kk) ?_
    refine own_step (T' := s₁) (g' := (mkF m 12 #[.val (.long q0), .second, .val (.int p2), .val (.int p3), .val (.int p4), .val (.long q5), .second, .val (.int p7), .unset, .unset, .unset, .unset, .unset, .unset, .unset, .unset, .unset, .unset, .unset] [(.int (0 : Int32))])) (fun _ kk => XS.iconst X0.here hx rfl (hb hby at_11) kk) ?_
    refine own_step (T' := s₁) (g' := (mkF m 14 #[.val (.long q0), .second, .val (.int p2), .val (.int p3), .val (.int p4), .val (.long q5), .second, .val (.int p7), .val (.int (0 : Int32)), .unset, .unset, .unset, .unset, .unset, .unset, .unset, .unset, .unset, .unset] [])) (fun _ kk => XS.istore X0.here hx rfl (hb hby at_12) rfl (l' := #[.val (.long q0), .second, .val (.int p2), .val (.int p3), .val (.int p4), .val (.long q5), .second, .val (.int p7), .val (.int (0 : Int32)), .unset, .unset, .unset, .unset, .unset, .unset, .unset, .unset, .unset, .unset]) rfl kk) ?_
    refine own_step (T' := s₁) (g' := (mkF m 16 #[.val (.long q0), .second, .val (.int p2), .val (.int p3), .val (.int p4), .val (.long q5), .second, .val (.int p7), .val (.int (0 : Int32)), .unset, .unset, .unset, .unset, .unset, .unset, .unset, .unset, .unset, .unset] [(.int (0 : Int32))])) (fun _ kk => XS.iload X0.here hx rfl (hb hby at_14) rfl kk) ?_
    refine own_step (T' := s₁) (g' := (mkF m 31 #[.val (.long q0), .second, .val (.int p2), .val (.int p3), .val (.int p4), .val (.long q5), .second, .val (.int p7), .val (.int (0 : Int32)), .unset, .unset, .unset, .unset, .unset, .unset, .unset, .unset, .unset, .unset] [])) (fun _ kk => XS.ifYes X0.here hx rfl (pc0 := 16) (pc' := 31) rfl (hb hby at_16) rfl ((if0 _ _).trans (teq rfl).1) (by decide) (by decide) kk) ?_
    refine own_step (T' := s₁) (g' := (mkF m 32 #[.val (.long q0), .second, .val (.int p2), .val (.int p3), .val (.int p4), .val (.long q5), .second, .val (.int p7), .val (.int (0 : Int32)), .unset, .unset, .unset, .unset, .unset, .unset, .unset, .unset, .unset, .unset] [(.int (1 : Int32))])) (fun _ kk => XS.iconst X0.here hx rfl (hb hby at_31) kk) ?_
    refine own_step (T' := s₁) (g' := (mkF m 34 #[.val (.long q0), .second, .val (.int p2), .val (.int p3), .val (.int p4), .val (.long q5), .second, .val (.int p7), .val (.int (0 : Int32)), .val (.int (1 : Int32)), .unset, .unset, .unset, .unset, .unset, .unset, .unset, .unset, .unset] [])) (fun _ kk => XS.istore X0.here hx rfl (hb hby at_32) rfl (l' := #[.val (.long q0), .second, .val (.int p2), .val (.int p3), .val (.int p4), .val (.long q5), .second, .val (.int p7), .val (.int (0 : Int32)), .val (.int (1 : Int32)), .unset, .unset, .unset, .unset, .unset, .unset, .unset, .unset, .unset]) rfl kk) ?_
    refine own_step (T' := s₁) (g' := (mkF m 35 #[.val (.long q0), .second, .val (.int p2), .val (.int p3), .val (.int p4), .val (.long q5), .second, .val (.int p7), .val (.int (0 : Int32)), .val (.int (1 : Int32)), .unset, .unset, .unset, .unset, .unset, .unset, .unset, .unset, .unset] [(.int p2)])) (fun _ kk => XS.iloadN X0.here hx rfl (hb hby at_34) rfl kk) ?_
    refine own_step (T' := s₁) (g' := (mkF m 38 #[.val (.long q0), .second, .val (.int p2), .val (.int p3), .val (.int p4), .val (.long q5), .second, .val (.int p7), .val (.int (0 : Int32)), .val (.int (1 : Int32)), .unset, .unset, .unset, .unset, .unset, .unset, .unset, .unset, .unset] [(.int (1023 : Int32)), (.int p2)])) (fun _ kk => XS.sipush X0.here hx rfl (hb hby at_35) kk) ?_
    refine own_step (T' := s₁) (g' := (mkF m 39 #[.val (.long q0), .second, .val (.int p2), .val (.int p3), .val (.int p4), .val (.long q5), .second, .val (.int p7), .val (.int (0 : Int32)), .val (.int (1 : Int32)), .unset, .unset, .unset, .unset, .unset, .unset, .unset, .unset, .unset] [(.int (p2 &&& (1023 : Int32)))])) (fun _ kk => XS.iand X0.here hx rfl (hb hby at_38) rfl kk) ?_
    refine own_step (T' := s₁) (g' := (mkF m 40 #[.val (.long q0), .second, .val (.int p2), .val (.int p3), .val (.int p4), .val (.long q5), .second, .val (.int p7), .val (.int (0 : Int32)), .val (.int (1 : Int32)), .unset, .unset, .unset, .unset, .unset, .unset, .unset, .unset, .unset] [(.int (1 : Int32)), (.int (p2 &&& (1023 : Int32)))])) (fun _ kk => XS.iconst X0.here hx rfl (hb hby at_39) kk) ?_
    refine own_step (T' := s₁) (g' := (mkF m 41 #[.val (.long q0), .second, .val (.int p2), .val (.int p3), .val (.int p4), .val (.long q5), .second, .val (.int p7), .val (.int (0 : Int32)), .val (.int (1 : Int32)), .unset, .unset, .unset, .unset, .unset, .unset, .unset, .unset, .unset] [(.int ((p2 &&& (1023 : Int32)) + (1 : Int32)))])) (fun _ kk => XS.iadd X0.here hx rfl (hb hby at_40) rfl kk) ?_
    refine own_step (T' := s₁) (g' := (mkF m 42 #[.val (.long q0), .second, .val (.int p2), .val (.int p3), .val (.int p4), .val (.long q5), .second, .val (.int p7), .val (.int (0 : Int32)), .val (.int (1 : Int32)), .unset, .unset, .unset, .unset, .unset, .unset, .unset, .unset, .unset] [(.long (((p2 &&& (1023 : Int32)) + (1 : Int32)).toInt64))])) (fun _ kk => XS.i2l X0.here hx rfl (hb hby at_41) rfl kk) ?_
    refine own_step (T' := s₁) (g' := (mkF m 44 #[.val (.long q0), .second, .val (.int p2), .val (.int p3), .val (.int p4), .val (.long q5), .second, .val (.int p7), .val (.int (0 : Int32)), .val (.int (1 : Int32)), .unset, .unset, .unset, .unset, .unset, .unset, .unset, .unset, .unset] [(.int (1 : Int32)), (.long (((p2 &&& (1023 : Int32)) + (1 : Int32)).toInt64))])) (fun _ kk => XS.iload X0.here hx rfl (hb hby at_42) rfl kk) ?_
    refine own_step (T' := s₁) (g' := (mkF m 45 #[.val (.long q0), .second, .val (.int p2), .val (.int p3), .val (.int p4), .val (.long q5), .second, .val (.int p7), .val (.int (0 : Int32)), .val (.int (1 : Int32)), .unset, .unset, .unset, .unset, .unset, .unset, .unset, .unset, .unset] [(.long ((1 : Int32).toInt64)), (.long (((p2 &&& (1023 : Int32)) + (1 : Int32)).toInt64))])) (fun _ kk => XS.i2l X0.here hx rfl (hb hby at_44) rfl kk) ?_
    refine own_step (T' := s₁) (g' := (mkF m 46 #[.val (.long q0), .second, .val (.int p2), .val (.int p3), .val (.int p4), .val (.long q5), .second, .val (.int p7), .val (.int (0 : Int32)), .val (.int (1 : Int32)), .unset, .unset, .unset, .unset, .unset, .unset, .unset, .unset, .unset] [(.long ((((p2 &&& (1023 : Int32)) + (1 : Int32)).toInt64) * ((1 : Int32).toInt64)))])) (fun _ kk => XS.lmul X0.here hx rfl (hb hby at_45) rfl kk) ?_
    refine own_step (T' := s₁) (g' := (mkF m 48 #[.val (.long q0), .second, .val (.int p2), .val (.int p3), .val (.int p4), .val (.long q5), .second, .val (.int p7), .val (.int (0 : Int32)), .val (.int (1 : Int32)), .val (.long ((((p2 &&& (1023 : Int32)) + (1 : Int32)).toInt64) * ((1 : Int32).toInt64))), .second, .unset, .unset, .unset, .unset, .unset, .unset, .unset] [])) (fun _ kk => XS.lstore X0.here hx rfl (hb hby at_46) rfl (l' := #[.val (.long q0), .second, .val (.int p2), .val (.int p3), .val (.int p4), .val (.long q5), .second, .val (.int p7), .val (.int (0 : Int32)), .val (.int (1 : Int32)), .val (.long ((((p2 &&& (1023 : Int32)) + (1 : Int32)).toInt64) * ((1 : Int32).toInt64))), .second, .unset, .unset, .unset, .unset, .unset, .unset, .unset]) rfl kk) ?_
    refine own_step (T' := s₁) (g' := (mkF m 49 #[.val (.long q0), .second, .val (.int p2), .val (.int p3), .val (.int p4), .val (.long q5), .second, .val (.int p7), .val (.int (0 : Int32)), .val (.int (1 : Int32)), .val (.long ((((p2 &&& (1023 : Int32)) + (1 : Int32)).toInt64) * ((1 : Int32).toInt64))), .second, .unset, .unset, .unset, .unset, .unset, .unset, .unset] [(.long (1 : Int64))])) (fun _ kk => XS.lconst X0.here hx rfl (hb hby at_48) kk) ?_
    refine own_step (T' := s₁) (g' := (mkF m 50 #[.val (.long q0), .second, .val (.int p2), .val (.int p3), .val (.int p4), .val (.long q5), .second, .val (.int p7), .val (.int (0 : Int32)), .val (.int (1 : Int32)), .val (.long ((((p2 &&& (1023 : Int32)) + (1 : Int32)).toInt64) * ((1 : Int32).toInt64))), .second, .unset, .unset, .unset, .unset, .unset, .unset, .unset] [(.long q0), (.long (1 : Int64))])) (fun _ kk => XS.lloadN X0.here hx rfl (hb hby at_49) rfl kk) ?_
    refine own_step (T' := s₁) (g' := (mkF m 53 #[.val (.long q0), .second, .val (.int p2), .val (.int p3), .val (.int p4), .val (.long q5), .second, .val (.int p7), .val (.int (0 : Int32)), .val (.int (1 : Int32)), .val (.long ((((p2 &&& (1023 : Int32)) + (1 : Int32)).toInt64) * ((1 : Int32).toInt64))), .second, .unset, .unset, .unset, .unset, .unset, .unset, .unset] [(.long (16777215 : Int64)), (.long q0), (.long (1 : Int64))])) (fun _ kk => X0.ldc2Long hx hown (mvT hZ (w0 hw)) (g := (mkF m 50 #[.val (.long q0), .second, .val (.int p2), .val (.int p3), .val (.int p4), .val (.long q5), .second, .val (.int p7), .val (.int (0 : Int32)), .val (.int (1 : Int32)), .val (.long ((((p2 &&& (1023 : Int32)) + (1 : Int32)).toInt64) * ((1 : Int32).toInt64))), .second, .unset, .unset, .unset, .unset, .unset, .unset, .unset] [(.long q0), (.long (1 : Int64))])) rfl (hb hby at_50) _ kk) ?_
    refine own_step (T' := s₁) (g' := (mkF m 54 #[.val (.long q0), .second, .val (.int p2), .val (.int p3), .val (.int p4), .val (.long q5), .second, .val (.int p7), .val (.int (0 : Int32)), .val (.int (1 : Int32)), .val (.long ((((p2 &&& (1023 : Int32)) + (1 : Int32)).toInt64) * ((1 : Int32).toInt64))), .second, .unset, .unset, .unset, .unset, .unset, .unset, .unset] [(.long (q0 &&& (16777215 : Int64))), (.long (1 : Int64))])) (fun _ kk => XS.land X0.here hx rfl (hb hby at_53) rfl kk) ?_
    refine own_step (T' := s₁) (g' := (mkF m 55 #[.val (.long q0), .second, .val (.int p2), .val (.int p3), .val (.int p4), .val (.long q5), .second, .val (.int p7), .val (.int (0 : Int32)), .val (.int (1 : Int32)), .val (.long ((((p2 &&& (1023 : Int32)) + (1 : Int32)).toInt64) * ((1 : Int32).toInt64))), .second, .unset, .unset, .unset, .unset, .unset, .unset, .unset] [(.long ((1 : Int64) + (q0 &&& (16777215 : Int64))))])) (fun _ kk => XS.ladd X0.here hx rfl (hb hby at_54) rfl kk) ?_
    refine own_step (T' := s₁) (g' := (mkF m 57 #[.val (.long q0), .second, .val (.int p2), .val (.int p3), .val (.int p4), .val (.long q5), .second, .val (.int p7), .val (.int (0 : Int32)), .val (.int (1 : Int32)), .val (.long ((((p2 &&& (1023 : Int32)) + (1 : Int32)).toInt64) * ((1 : Int32).toInt64))), .second, .val (.long ((1 : Int64) + (q0 &&& (16777215 : Int64)))), .second, .unset, .unset, .unset, .unset, .unset] [])) (fun _ kk => XS.lstore X0.here hx rfl (hb hby at_55) rfl (l' := #[.val (.long q0), .second, .val (.int p2), .val (.int p3), .val (.int p4), .val (.long q5), .second, .val (.int p7), .val (.int (0 : Int32)), .val (.int (1 : Int32)), .val (.long ((((p2 &&& (1023 : Int32)) + (1 : Int32)).toInt64) * ((1 : Int32).toInt64))), .second, .val (.long ((1 : Int64) + (q0 &&& (16777215 : Int64)))), .second, .unset, .unset, .unset, .unset, .unset]) rfl kk) ?_
    refine own_step (T' := s₁) (g' := (mkF m 59 #[.val (.long q0), .second, .val (.int p2), .val (.int p3), .val (.int p4), .val (.long q5), .second, .val (.int p7), .val (.int (0 : Int32)), .val (.int (1 : Int32)), .val (.long ((((p2 &&& (1023 : Int32)) + (1 : Int32)).toInt64) * ((1 : Int32).toInt64))), .second, .val (.long ((1 : Int64) + (q0 &&& (16777215 : Int64)))), .second, .unset, .unset, .unset, .unset, .unset] [(.int (0 : Int32))])) (fun _ kk => XS.iload X0.here hx rfl (hb hby at_57) rfl kk) ?_
    refine own_step (T' := s₁) (g' := (mkF m 74 #[.val (.long q0), .second, .val (.int p2), .val (.int p3), .val (.int p4), .val (.long q5), .second, .val (.int p7), .val (.int (0 : Int32)), .val (.int (1 : Int32)), .val (.long ((((p2 &&& (1023 : Int32)) + (1 : Int32)).toInt64) * ((1 : Int32).toInt64))), .second, .val (.long ((1 : Int64) + (q0 &&& (16777215 : Int64)))), .second, .unset, .unset, .unset, .unset, .unset] [])) (fun _ kk => XS.ifYes X0.here hx rfl (pc0 := 59) (pc' := 74) rfl (hb hby at_59) rfl ((if0 _ _).trans (teq rfl).1) (by decide) (by decide) kk) ?_
    obtain ⟨T286, h286, X286, e286, E286, A286, D286, U286, st286⟩ := newO X0 hx hZ hown (w1 hw) (w2 hw) (w3 hw) e0 (g := (mkF m 74 #[.val (.long q0), .second, .val (.int p2), .val (.int p3), .val (.int p4), .val (.long q5), .second, .val (.int p7), .val (.int (0 : Int32)), .val (.int (1 : Int32)), .val (.long ((((p2 &&& (1023 : Int32)) + (1 : Int32)).toInt64) * ((1 : Int32).toInt64))), .second, .val (.long ((1 : Int64) + (q0 &&& (16777215 : Int64)))), .second, .unset, .unset, .unset, .unset, .unset] [])) rfl (hb hby at_74) (by decide) (by decide)
    obtain ⟨a285, g286⟩ : ∃ z, z = h0.size := ⟨_, rfl⟩
    rw [← g286] at A286 D286 U286 st286
    have ge287 : Z.heap.size ≤ a285 := by rw [g286]; exact O0.2.1
    have ng288 : h0.size ≤ a285 := by rw [g286]; exact F199.1
    have F289 := O0.ext E286
    have F290 := F199.ext E286
    have F291 : own_Obj Z h286 a285 "com/example/span60/span60/limit/SlidingWindow" := own_Obj.new A286 U286
    refine own_step (T' := T286) (g' := (mkF m 77 #[.val (.long q0), .second, .val (.int p2), .val (.int p3), .val (.int p4), .val (.long q5), .second, .val (.int p7), .val (.int (0 : Int32)), .val (.int (1 : Int32)), .val (.long ((((p2 &&& (1023 : Int32)) + (1 : Int32)).toInt64) * ((1 : Int32).toInt64))), .second, .val (.long ((1 : Int64) + (q0 &&& (16777215 : Int64)))), .second, .unset, .unset, .unset, .unset, .unset] [(.ref a285)])) (fun _ kk => st286 _ kk) ?_
    refine own_step (T' := T286) (g' := (mkF m 78 #[.val (.long q0), .second, .val (.int p2), .val (.int p3), .val (.int p4), .val (.long q5), .second, .val (.int p7), .val (.int (0 : Int32)), .val (.int (1 : Int32)), .val (.long ((((p2 &&& (1023 : Int32)) + (1 : Int32)).toInt64) * ((1 : Int32).toInt64))), .second, .val (.long ((1 : Int64) + (q0 &&& (16777215 : Int64)))), .second, .unset, .unset, .unset, .unset, .unset] [(.ref a285), (.ref a285)])) (fun _ kk => XS.dup X286.here hx rfl (hb hby at_77) rfl rfl kk) ?_
    refine own_step (T' := T286) (g' := (mkF m 80 #[.val (.long q0), .second, .val (.int p2), .val (.int p3), .val (.int p4), .val (.long q5), .second, .val (.int p7), .val (.int (0 : Int32)), .val (.int (1 : Int32)), .val (.long ((((p2 &&& (1023 : Int32)) + (1 : Int32)).toInt64) * ((1 : Int32).toInt64))), .second, .val (.long ((1 : Int64) + (q0 &&& (16777215 : Int64)))), .second, .unset, .unset, .unset, .unset, .unset] [(.long ((1 : Int64) + (q0 &&& (16777215 : Int64)))), (.ref a285), (.ref a285)])) (fun _ kk => XS.lload X286.here hx rfl (hb hby at_78) rfl kk) ?_
    refine own_step (T' := T286) (g' := (mkF m 82 #[.val (.long q0), .second, .val (.int p2), .val (.int p3), .val (.int p4), .val (.long q5), .second, .val (.int p7), .val (.int (0 : Int32)), .val (.int (1 : Int32)), .val (.long ((((p2 &&& (1023 : Int32)) + (1 : Int32)).toInt64) * ((1 : Int32).toInt64))), .second, .val (.long ((1 : Int64) + (q0 &&& (16777215 : Int64)))), .second, .unset, .unset, .unset, .unset, .unset] [(.long ((((p2 &&& (1023 : Int32)) + (1 : Int32)).toInt64) * ((1 : Int32).toInt64))), (.long ((1 : Int64) + (q0 &&& (16777215 : Int64)))), (.ref a285), (.ref a285)])) (fun _ kk => XS.lload X286.here hx rfl (hb hby at_80) rfl kk) ?_
    obtain ⟨T292, L292, _, h292, X292, e292, ⟨rfl, Nq, Kq, Oq, Fq⟩, st292⟩ := own_callC X286 hx hZ hown rfl (w4 hw) (w5 hw) (w6 hw) (w3 hw) (by decide) (a := a285) (g := (mkF m 82 #[.val (.long q0), .second, .val (.int p2), .val (.int p3), .val (.int p4), .val (.long q5), .second, .val (.int p7), .val (.int (0 : Int32)), .val (.int (1 : Int32)), .val (.long ((((p2 &&& (1023 : Int32)) + (1 : Int32)).toInt64) * ((1 : Int32).toInt64))), .second, .val (.long ((1 : Int64) + (q0 &&& (16777215 : Int64)))), .second, .unset, .unset, .unset, .unset, .unset] [(.long ((((p2 &&& (1023 : Int32)) + (1 : Int32)).toInt64) * ((1 : Int32).toInt64))), (.long ((1 : Int64) + (q0 &&& (16777215 : Int64)))), (.ref a285), (.ref a285)])) rfl (by rw [hml]; rfl) (argsL := [(.long ((1 : Int64) + (q0 &&& (16777215 : Int64)))), (.long ((((p2 &&& (1023 : Int32)) + (1 : Int32)).toInt64) * ((1 : Int32).toInt64)))]) (rest := [(.ref a285)]) (rm_sw2 l Z a0 hw a285 ((1 : Int64) + (q0 &&& (16777215 : Int64))) (((p2 &&& (1023 : Int32)) + (1 : Int32)).toInt64 * ((1 : Int32).toInt64)) _ F289 F291 ge287 S1 (own_lim q0).1 (own_lim q0).2 (own_win p2 (1 : Int32) (by decide) (by decide)).1 (own_win p2 (1 : Int32) (by decide) (by decide)).2.1) e286 pd__JJ_V rfl rfl (W := 1) (by show 2 * 0 + _ ≤ _; exact Nat.le_of_eq rfl) (hb hby at_82) (by decide) (by decide) (by decide) (by decide)
    have F293 := Fr.app F198 Nq
    have F294 := F291.keep Kq
    have F295 := F289.keep Kq (allS ge287 all0)
    have F296 := F290.trans Kq (allS (Or.inr ng288) all0)
    refine own_step (T' := T292) (g' := (mkF m 85 #[.val (.long q0), .second, .val (.int p2), .val (.int p3), .val (.int p4), .val (.long q5), .second, .val (.int p7), .val (.int (0 : Int32)), .val (.int (1 : Int32)), .val (.long ((((p2 &&& (1023 : Int32)) + (1 : Int32)).toInt64) * ((1 : Int32).toInt64))), .second, .val (.long ((1 : Int64) + (q0 &&& (16777215 : Int64)))), .second, .unset, .unset, .unset, .unset, .unset] [(.ref a285)])) (fun _ kk => st292 _ kk) ?_
    exact seg _ _ _ _ _ _ _ _ X292 e292 F293 F295 Oq Fq (by decide) (by decide)
  · refine own_step (T' := s₁) (g' := (mkF m 7 #[.val (.long q0), .second, .val (.int p2), .val (.int p3), .val (.int p4), .val (.long q5), .second, .val (.int p7), .unset, .unset, .unset, .unset, .unset, .unset, .unset, .unset, .unset, .unset, .unset] [])) (fun _ kk => XS.ifNo X0.here hx rfl (hb hby at_4) rfl ((if0 _ _).trans (feq c284).1) kk) ?_
    refine own_step (T' := s₁) (g' := (mkF m 8 #[.val (.long q0), .second, .val (.int p2), .val (.int p3), .val (.int p4), .val (.long q5), .second, .val (.int p7), .unset, .unset, .unset, .unset, .unset, .unset, .unset, .unset, .unset, .unset, .unset] [(.int (1 : Int32))])) (fun _ kk => XS.iconst X0.here hx rfl (hb hby at_7) kk) ?_
    refine own_step (T' := s₁) (g' := (mkF m 12 #[.val (.long q0), .second, .val (.int p2), .val (.int p3), .val (.int p4), .val (.long q5), .second, .val (.int p7), .unset, .unset, .unset, .unset, .unset, .unset, .unset, .unset, .unset, .unset, .unset] [(.int (1 : Int32))])) (fun _ kk => XS.goto X0.here hx rfl (pc0 := 8) (pc' := 12) rfl (hb hby at_8) (by decide) (by decide) kk) ?_
    refine own_step (T' := s₁) (g' := (mkF m 14 #[.val (.long q0), .second, .val (.int p2), .val (.int p3), .val (.int p4), .val (.long q5), .second, .val (.int p7), .val (.int (1 : Int32)), .unset, .unset, .unset, .unset, .unset, .unset, .unset, .unset, .unset, .unset] [])) (fun _ kk => XS.istore X0.here hx rfl (hb hby at_12) rfl (l' := #[.val (.long q0), .second, .val (.int p2), .val (.int p3), .val (.int p4), .val (.long q5), .second, .val (.int p7), .val (.int (1 : Int32)), .unset, .unset, .unset, .unset, .unset, .unset, .unset, .unset, .unset, .unset]) rfl kk) ?_
    refine own_step (T' := s₁) (g' := (mkF m 16 #[.val (.long q0), .second, .val (.int p2), .val (.int p3), .val (.int p4), .val (.long q5), .second, .val (.int p7), .val (.int (1 : Int32)), .unset, .unset, .unset, .unset, .unset, .unset, .unset, .unset, .unset, .unset] [(.int (1 : Int32))])) (fun _ kk => XS.iload X0.here hx rfl (hb hby at_14) rfl kk) ?_
    refine own_step (T' := s₁) (g' := (mkF m 19 #[.val (.long q0), .second, .val (.int p2), .val (.int p3), .val (.int p4), .val (.long q5), .second, .val (.int p7), .val (.int (1 : Int32)), .unset, .unset, .unset, .unset, .unset, .unset, .unset, .unset, .unset, .unset] [])) (fun _ kk => XS.ifNo X0.here hx rfl (hb hby at_16) rfl ((if0 _ _).trans (feq (by decide)).1) kk) ?_
    refine own_step (T' := s₁) (g' := (mkF m 20 #[.val (.long q0), .second, .val (.int p2), .val (.int p3), .val (.int p4), .val (.long q5), .second, .val (.int p7), .val (.int (1 : Int32)), .unset, .unset, .unset, .unset, .unset, .unset, .unset, .unset, .unset, .unset] [(.int (2 : Int32))])) (fun _ kk => XS.iconst X0.here hx rfl (hb hby at_19) kk) ?_
    refine own_step (T' := s₁) (g' := (mkF m 21 #[.val (.long q0), .second, .val (.int p2), .val (.int p3), .val (.int p4), .val (.long q5), .second, .val (.int p7), .val (.int (1 : Int32)), .unset, .unset, .unset, .unset, .unset, .unset, .unset, .unset, .unset, .unset] [(.int p3), (.int (2 : Int32))])) (fun _ kk => XS.iloadN X0.here hx rfl (hb hby at_20) rfl kk) ?_
    refine own_step (T' := s₁) (g' := (mkF m 23 #[.val (.long q0), .second, .val (.int p2), .val (.int p3), .val (.int p4), .val (.long q5), .second, .val (.int p7), .val (.int (1 : Int32)), .unset, .unset, .unset, .unset, .unset, .unset, .unset, .unset, .unset, .unset] [(.int (2147483647 : Int32)), (.int p3), (.int (2 : Int32))])) (fun _ kk => X0.ldcInt hx hown (mvT hZ (w80 hw)) (g := (mkF m 21 #[.val (.long q0), .second, .val (.int p2), .val (.int p3), .val (.int p4), .val (.long q5), .second, .val (.int p7), .val (.int (1 : Int32)), .unset, .unset, .unset, .unset, .unset, .unset, .unset, .unset, .unset, .unset] [(.int p3), (.int (2 : Int32))])) rfl (hb hby at_21) _ kk) ?_
    refine own_step (T' := s₁) (g' := (mkF m 24 #[.val (.long q0), .second, .val (.int p2), .val (.int p3), .val (.int p4), .val (.long q5), .second, .val (.int p7), .val (.int (1 : Int32)), .unset, .unset, .unset, .unset, .unset, .unset, .unset, .unset, .unset, .unset] [(.int (p3 &&& (2147483647 : Int32))), (.int (2 : Int32))])) (fun _ kk => XS.iand X0.here hx rfl (hb hby at_23) rfl kk) ?_
    refine own_step (T' := s₁) (g' := (mkF m 26 #[.val (.long q0), .second, .val (.int p2), .val (.int p3), .val (.int p4), .val (.long q5), .second, .val (.int p7), .val (.int (1 : Int32)), .unset, .unset, .unset, .unset, .unset, .unset, .unset, .unset, .unset, .unset] [(.int (99 : Int32)), (.int (p3 &&& (2147483647 : Int32))), (.int (2 : Int32))])) (fun _ kk => XS.bipush X0.here hx rfl (hb hby at_24) kk) ?_
    refine own_step (T' := s₁) (g' := (mkF m 27 #[.val (.long q0), .second, .val (.int p2), .val (.int p3), .val (.int p4), .val (.long q5), .second, .val (.int p7), .val (.int (1 : Int32)), .unset, .unset, .unset, .unset, .unset, .unset, .unset, .unset, .unset, .unset] [(.int ((p3 &&& (2147483647 : Int32)) % (99 : Int32))), (.int (2 : Int32))])) (fun _ kk => iremM X0 hx rfl (hb hby at_26) rfl (by decide) kk) ?_
    refine own_step (T' := s₁) (g' := (mkF m 28 #[.val (.long q0), .second, .val (.int p2), .val (.int p3), .val (.int p4), .val (.long q5), .second, .val (.int p7), .val (.int (1 : Int32)), .unset, .unset, .unset, .unset, .unset, .unset, .unset, .unset, .unset, .unset] [(.int ((2 : Int32) + ((p3 &&& (2147483647 : Int32)) % (99 : Int32))))])) (fun _ kk => XS.iadd X0.here hx rfl (hb hby at_27) rfl kk) ?_
    refine own_step (T' := s₁) (g' := (mkF m 32 #[.val (.long q0), .second, .val (.int p2), .val (.int p3), .val (.int p4), .val (.long q5), .second, .val (.int p7), .val (.int (1 : Int32)), .unset, .unset, .unset, .unset, .unset, .unset, .unset, .unset, .unset, .unset] [(.int ((2 : Int32) + ((p3 &&& (2147483647 : Int32)) % (99 : Int32))))])) (fun _ kk => XS.goto X0.here hx rfl (pc0 := 28) (pc' := 32) rfl (hb hby at_28) (by decide) (by decide) kk) ?_
    refine own_step (T' := s₁) (g' := (mkF m 34 #[.val (.long q0), .second, .val (.int p2), .val (.int p3), .val (.int p4), .val (.long q5), .second, .val (.int p7), .val (.int (1 : Int32)), .val (.int ((2 : Int32) + ((p3 &&& (2147483647 : Int32)) % (99 : Int32)))), .unset, .unset, .unset, .unset, .unset, .unset, .unset, .unset, .unset] [])) (fun _ kk => XS.istore X0.here hx rfl (hb hby at_32) rfl (l' := #[.val (.long q0), .second, .val (.int p2), .val (.int p3), .val (.int p4), .val (.long q5), .second, .val (.int p7), .val (.int (1 : Int32)), .val (.int ((2 : Int32) + ((p3 &&& (2147483647 : Int32)) % (99 : Int32)))), .unset, .unset, .unset, .unset, .unset, .unset, .unset, .unset, .unset]) rfl kk) ?_
    refine own_step (T' := s₁) (g' := (mkF m 35 #[.val (.long q0), .second, .val (.int p2), .val (.int p3), .val (.int p4), .val (.long q5), .second, .val (.int p7), .val (.int (1 : Int32)), .val (.int ((2 : Int32) + ((p3 &&& (2147483647 : Int32)) % (99 : Int32)))), .unset, .unset, .unset, .unset, .unset, .unset, .unset, .unset, .unset] [(.int p2)])) (fun _ kk => XS.iloadN X0.here hx rfl (hb hby at_34) rfl kk) ?_
    refine own_step (T' := s₁) (g' := (mkF m 38 #[.val (.long q0), .second, .val (.int p2), .val (.int p3), .val (.int p4), .val (.long q5), .second, .val (.int p7), .val (.int (1 : Int32)), .val (.int ((2 : Int32) + ((p3 &&& (2147483647 : Int32)) % (99 : Int32)))), .unset, .unset, .unset, .unset, .unset, .unset, .unset, .unset, .unset] [(.int (1023 : Int32)), (.int p2)])) (fun _ kk => XS.sipush X0.here hx rfl (hb hby at_35) kk) ?_
    refine own_step (T' := s₁) (g' := (mkF m 39 #[.val (.long q0), .second, .val (.int p2), .val (.int p3), .val (.int p4), .val (.long q5), .second, .val (.int p7), .val (.int (1 : Int32)), .val (.int ((2 : Int32) + ((p3 &&& (2147483647 : Int32)) % (99 : Int32)))), .unset, .unset, .unset, .unset, .unset, .unset, .unset, .unset, .unset] [(.int (p2 &&& (1023 : Int32)))])) (fun _ kk => XS.iand X0.here hx rfl (hb hby at_38) rfl kk) ?_
    refine own_step (T' := s₁) (g' := (mkF m 40 #[.val (.long q0), .second, .val (.int p2), .val (.int p3), .val (.int p4), .val (.long q5), .second, .val (.int p7), .val (.int (1 : Int32)), .val (.int ((2 : Int32) + ((p3 &&& (2147483647 : Int32)) % (99 : Int32)))), .unset, .unset, .unset, .unset, .unset, .unset, .unset, .unset, .unset] [(.int (1 : Int32)), (.int (p2 &&& (1023 : Int32)))])) (fun _ kk => XS.iconst X0.here hx rfl (hb hby at_39) kk) ?_
    refine own_step (T' := s₁) (g' := (mkF m 41 #[.val (.long q0), .second, .val (.int p2), .val (.int p3), .val (.int p4), .val (.long q5), .second, .val (.int p7), .val (.int (1 : Int32)), .val (.int ((2 : Int32) + ((p3 &&& (2147483647 : Int32)) % (99 : Int32)))), .unset, .unset, .unset, .unset, .unset, .unset, .unset, .unset, .unset] [(.int ((p2 &&& (1023 : Int32)) + (1 : Int32)))])) (fun _ kk => XS.iadd X0.here hx rfl (hb hby at_40) rfl kk) ?_
    refine own_step (T' := s₁) (g' := (mkF m 42 #[.val (.long q0), .second, .val (.int p2), .val (.int p3), .val (.int p4), .val (.long q5), .second, .val (.int p7), .val (.int (1 : Int32)), .val (.int ((2 : Int32) + ((p3 &&& (2147483647 : Int32)) % (99 : Int32)))), .unset, .unset, .unset, .unset, .unset, .unset, .unset, .unset, .unset] [(.long (((p2 &&& (1023 : Int32)) + (1 : Int32)).toInt64))])) (fun _ kk => XS.i2l X0.here hx rfl (hb hby at_41) rfl kk) ?_
    refine own_step (T' := s₁) (g' := (mkF m 44 #[.val (.long q0), .second, .val (.int p2), .val (.int p3), .val (.int p4), .val (.long q5), .second, .val (.int p7), .val (.int (1 : Int32)), .val (.int ((2 : Int32) + ((p3 &&& (2147483647 : Int32)) % (99 : Int32)))), .unset, .unset, .unset, .unset, .unset, .unset, .unset, .unset, .unset] [(.int ((2 : Int32) + ((p3 &&& (2147483647 : Int32)) % (99 : Int32)))), (.long (((p2 &&& (1023 : Int32)) + (1 : Int32)).toInt64))])) (fun _ kk => XS.iload X0.here hx rfl (hb hby at_42) rfl kk) ?_
    refine own_step (T' := s₁) (g' := (mkF m 45 #[.val (.long q0), .second, .val (.int p2), .val (.int p3), .val (.int p4), .val (.long q5), .second, .val (.int p7), .val (.int (1 : Int32)), .val (.int ((2 : Int32) + ((p3 &&& (2147483647 : Int32)) % (99 : Int32)))), .unset, .unset, .unset, .unset, .unset, .unset, .unset, .unset, .unset] [(.long (((2 : Int32) + ((p3 &&& (2147483647 : Int32)) % (99 : Int32))).toInt64)), (.long (((p2 &&& (1023 : Int32)) + (1 : Int32)).toInt64))])) (fun _ kk => XS.i2l X0.here hx rfl (hb hby at_44) rfl kk) ?_
    refine own_step (T' := s₁) (g' := (mkF m 46 #[.val (.long q0), .second, .val (.int p2), .val (.int p3), .val (.int p4), .val (.long q5), .second, .val (.int p7), .val (.int (1 : Int32)), .val (.int ((2 : Int32) + ((p3 &&& (2147483647 : Int32)) % (99 : Int32)))), .unset, .unset, .unset, .unset, .unset, .unset, .unset, .unset, .unset] [(.long ((((p2 &&& (1023 : Int32)) + (1 : Int32)).toInt64) * (((2 : Int32) + ((p3 &&& (2147483647 : Int32)) % (99 : Int32))).toInt64)))])) (fun _ kk => XS.lmul X0.here hx rfl (hb hby at_45) rfl kk) ?_
    refine own_step (T' := s₁) (g' := (mkF m 48 #[.val (.long q0), .second, .val (.int p2), .val (.int p3), .val (.int p4), .val (.long q5), .second, .val (.int p7), .val (.int (1 : Int32)), .val (.int ((2 : Int32) + ((p3 &&& (2147483647 : Int32)) % (99 : Int32)))), .val (.long ((((p2 &&& (1023 : Int32)) + (1 : Int32)).toInt64) * (((2 : Int32) + ((p3 &&& (2147483647 : Int32)) % (99 : Int32))).toInt64))), .second, .unset, .unset, .unset, .unset, .unset, .unset, .unset] [])) (fun _ kk => XS.lstore X0.here hx rfl (hb hby at_46) rfl (l' := #[.val (.long q0), .second, .val (.int p2), .val (.int p3), .val (.int p4), .val (.long q5), .second, .val (.int p7), .val (.int (1 : Int32)), .val (.int ((2 : Int32) + ((p3 &&& (2147483647 : Int32)) % (99 : Int32)))), .val (.long ((((p2 &&& (1023 : Int32)) + (1 : Int32)).toInt64) * (((2 : Int32) + ((p3 &&& (2147483647 : Int32)) % (99 : Int32))).toInt64))), .second, .unset, .unset, .unset, .unset, .unset, .unset, .unset]) rfl kk) ?_
    refine own_step (T' := s₁) (g' := (mkF m 49 #[.val (.long q0), .second, .val (.int p2), .val (.int p3), .val (.int p4), .val (.long q5), .second, .val (.int p7), .val (.int (1 : Int32)), .val (.int ((2 : Int32) + ((p3 &&& (2147483647 : Int32)) % (99 : Int32)))), .val (.long ((((p2 &&& (1023 : Int32)) + (1 : Int32)).toInt64) * (((2 : Int32) + ((p3 &&& (2147483647 : Int32)) % (99 : Int32))).toInt64))), .second, .unset, .unset, .unset, .unset, .unset, .unset, .unset] [(.long (1 : Int64))])) (fun _ kk => XS.lconst X0.here hx rfl (hb hby at_48) kk) ?_
    refine own_step (T' := s₁) (g' := (mkF m 50 #[.val (.long q0), .second, .val (.int p2), .val (.int p3), .val (.int p4), .val (.long q5), .second, .val (.int p7), .val (.int (1 : Int32)), .val (.int ((2 : Int32) + ((p3 &&& (2147483647 : Int32)) % (99 : Int32)))), .val (.long ((((p2 &&& (1023 : Int32)) + (1 : Int32)).toInt64) * (((2 : Int32) + ((p3 &&& (2147483647 : Int32)) % (99 : Int32))).toInt64))), .second, .unset, .unset, .unset, .unset, .unset, .unset, .unset] [(.long q0), (.long (1 : Int64))])) (fun _ kk => XS.lloadN X0.here hx rfl (hb hby at_49) rfl kk) ?_
    refine own_step (T' := s₁) (g' := (mkF m 53 #[.val (.long q0), .second, .val (.int p2), .val (.int p3), .val (.int p4), .val (.long q5), .second, .val (.int p7), .val (.int (1 : Int32)), .val (.int ((2 : Int32) + ((p3 &&& (2147483647 : Int32)) % (99 : Int32)))), .val (.long ((((p2 &&& (1023 : Int32)) + (1 : Int32)).toInt64) * (((2 : Int32) + ((p3 &&& (2147483647 : Int32)) % (99 : Int32))).toInt64))), .second, .unset, .unset, .unset, .unset, .unset, .unset, .unset] [(.long (16777215 : Int64)), (.long q0), (.long (1 : Int64))])) (fun _ kk => X0.ldc2Long hx hown (mvT hZ (w0 hw)) (g := (mkF m 50 #[.val (.long q0), .second, .val (.int p2), .val (.int p3), .val (.int p4), .val (.long q5), .second, .val (.int p7), .val (.int (1 : Int32)), .val (.int ((2 : Int32) + ((p3 &&& (2147483647 : Int32)) % (99 : Int32)))), .val (.long ((((p2 &&& (1023 : Int32)) + (1 : Int32)).toInt64) * (((2 : Int32) + ((p3 &&& (2147483647 : Int32)) % (99 : Int32))).toInt64))), .second, .unset, .unset, .unset, .unset, .unset, .unset, .unset] [(.long q0), (.long (1 : Int64))])) rfl (hb hby at_50) _ kk) ?_
    refine own_step (T' := s₁) (g' := (mkF m 54 #[.val (.long q0), .second, .val (.int p2), .val (.int p3), .val (.int p4), .val (.long q5), .second, .val (.int p7), .val (.int (1 : Int32)), .val (.int ((2 : Int32) + ((p3 &&& (2147483647 : Int32)) % (99 : Int32)))), .val (.long ((((p2 &&& (1023 : Int32)) + (1 : Int32)).toInt64) * (((2 : Int32) + ((p3 &&& (2147483647 : Int32)) % (99 : Int32))).toInt64))), .second, .unset, .unset, .unset, .unset, .unset, .unset, .unset] [(.long (q0 &&& (16777215 : Int64))), (.long (1 : Int64))])) (fun _ kk => XS.land X0.here hx rfl (hb hby at_53) rfl kk) ?_
    refine own_step (T' := s₁) (g' := (mkF m 55 #[.val (.long q0), .second, .val (.int p2), .val (.int p3), .val (.int p4), .val (.long q5), .second, .val (.int p7), .val (.int (1 : Int32)), .val (.int ((2 : Int32) + ((p3 &&& (2147483647 : Int32)) % (99 : Int32)))), .val (.long ((((p2 &&& (1023 : Int32)) + (1 : Int32)).toInt64) * (((2 : Int32) + ((p3 &&& (2147483647 : Int32)) % (99 : Int32))).toInt64))), .second, .unset, .unset, .unset, .unset, .unset, .unset, .unset] [(.long ((1 : Int64) + (q0 &&& (16777215 : Int64))))])) (fun _ kk => XS.ladd X0.here hx rfl (hb hby at_54) rfl kk) ?_
    refine own_step (T' := s₁) (g' := (mkF m 57 #[.val (.long q0), .second, .val (.int p2), .val (.int p3), .val (.int p4), .val (.long q5), .second, .val (.int p7), .val (.int (1 : Int32)), .val (.int ((2 : Int32) + ((p3 &&& (2147483647 : Int32)) % (99 : Int32)))), .val (.long ((((p2 &&& (1023 : Int32)) + (1 : Int32)).toInt64) * (((2 : Int32) + ((p3 &&& (2147483647 : Int32)) % (99 : Int32))).toInt64))), .second, .val (.long ((1 : Int64) + (q0 &&& (16777215 : Int64)))), .second, .unset, .unset, .unset, .unset, .unset] [])) (fun _ kk => XS.lstore X0.here hx rfl (hb hby at_55) rfl (l' := #[.val (.long q0), .second, .val (.int p2), .val (.int p3), .val (.int p4), .val (.long q5), .second, .val (.int p7), .val (.int (1 : Int32)), .val (.int ((2 : Int32) + ((p3 &&& (2147483647 : Int32)) % (99 : Int32)))), .val (.long ((((p2 &&& (1023 : Int32)) + (1 : Int32)).toInt64) * (((2 : Int32) + ((p3 &&& (2147483647 : Int32)) % (99 : Int32))).toInt64))), .second, .val (.long ((1 : Int64) + (q0 &&& (16777215 : Int64)))), .second, .unset, .unset, .unset, .unset, .unset]) rfl kk) ?_
    refine own_step (T' := s₁) (g' := (mkF m 59 #[.val (.long q0), .second, .val (.int p2), .val (.int p3), .val (.int p4), .val (.long q5), .second, .val (.int p7), .val (.int (1 : Int32)), .val (.int ((2 : Int32) + ((p3 &&& (2147483647 : Int32)) % (99 : Int32)))), .val (.long ((((p2 &&& (1023 : Int32)) + (1 : Int32)).toInt64) * (((2 : Int32) + ((p3 &&& (2147483647 : Int32)) % (99 : Int32))).toInt64))), .second, .val (.long ((1 : Int64) + (q0 &&& (16777215 : Int64)))), .second, .unset, .unset, .unset, .unset, .unset] [(.int (1 : Int32))])) (fun _ kk => XS.iload X0.here hx rfl (hb hby at_57) rfl kk) ?_
    refine own_step (T' := s₁) (g' := (mkF m 62 #[.val (.long q0), .second, .val (.int p2), .val (.int p3), .val (.int p4), .val (.long q5), .second, .val (.int p7), .val (.int (1 : Int32)), .val (.int ((2 : Int32) + ((p3 &&& (2147483647 : Int32)) % (99 : Int32)))), .val (.long ((((p2 &&& (1023 : Int32)) + (1 : Int32)).toInt64) * (((2 : Int32) + ((p3 &&& (2147483647 : Int32)) % (99 : Int32))).toInt64))), .second, .val (.long ((1 : Int64) + (q0 &&& (16777215 : Int64)))), .second, .unset, .unset, .unset, .unset, .unset] [])) (fun _ kk => XS.ifNo X0.here hx rfl (hb hby at_59) rfl ((if0 _ _).trans (feq (by decide)).1) kk) ?_
    refine own_step (T' := s₁) (g' := (mkF m 64 #[.val (.long q0), .second, .val (.int p2), .val (.int p3), .val (.int p4), .val (.long q5), .second, .val (.int p7), .val (.int (1 : Int32)), .val (.int ((2 : Int32) + ((p3 &&& (2147483647 : Int32)) % (99 : Int32)))), .val (.long ((((p2 &&& (1023 : Int32)) + (1 : Int32)).toInt64) * (((2 : Int32) + ((p3 &&& (2147483647 : Int32)) % (99 : Int32))).toInt64))), .second, .val (.long ((1 : Int64) + (q0 &&& (16777215 : Int64)))), .second, .unset, .unset, .unset, .unset, .unset] [(.long ((1 : Int64) + (q0 &&& (16777215 : Int64))))])) (fun _ kk => XS.lload X0.here hx rfl (hb hby at_62) rfl kk) ?_
    refine own_step (T' := s₁) (g' := (mkF m 66 #[.val (.long q0), .second, .val (.int p2), .val (.int p3), .val (.int p4), .val (.long q5), .second, .val (.int p7), .val (.int (1 : Int32)), .val (.int ((2 : Int32) + ((p3 &&& (2147483647 : Int32)) % (99 : Int32)))), .val (.long ((((p2 &&& (1023 : Int32)) + (1 : Int32)).toInt64) * (((2 : Int32) + ((p3 &&& (2147483647 : Int32)) % (99 : Int32))).toInt64))), .second, .val (.long ((1 : Int64) + (q0 &&& (16777215 : Int64)))), .second, .unset, .unset, .unset, .unset, .unset] [(.long ((((p2 &&& (1023 : Int32)) + (1 : Int32)).toInt64) * (((2 : Int32) + ((p3 &&& (2147483647 : Int32)) % (99 : Int32))).toInt64))), (.long ((1 : Int64) + (q0 &&& (16777215 : Int64))))])) (fun _ kk => XS.lload X0.here hx rfl (hb hby at_64) rfl kk) ?_
    refine own_step (T' := s₁) (g' := (mkF m 68 #[.val (.long q0), .second, .val (.int p2), .val (.int p3), .val (.int p4), .val (.long q5), .second, .val (.int p7), .val (.int (1 : Int32)), .val (.int ((2 : Int32) + ((p3 &&& (2147483647 : Int32)) % (99 : Int32)))), .val (.long ((((p2 &&& (1023 : Int32)) + (1 : Int32)).toInt64) * (((2 : Int32) + ((p3 &&& (2147483647 : Int32)) % (99 : Int32))).toInt64))), .second, .val (.long ((1 : Int64) + (q0 &&& (16777215 : Int64)))), .second, .unset, .unset, .unset, .unset, .unset] [(.int ((2 : Int32) + ((p3 &&& (2147483647 : Int32)) % (99 : Int32)))), (.long ((((p2 &&& (1023 : Int32)) + (1 : Int32)).toInt64) * (((2 : Int32) + ((p3 &&& (2147483647 : Int32)) % (99 : Int32))).toInt64))), (.long ((1 : Int64) + (q0 &&& (16777215 : Int64))))])) (fun _ kk => XS.iload X0.here hx rfl (hb hby at_66) rfl kk) ?_
    obtain ⟨T297, L297, _, h297, X297, e297, ⟨win, rfl, Nq, Kq, Oq, Fq⟩, st297⟩ := own_callS X0 hx hZ hown (w81 hw) (w82 hw) (w83 hw) (w3 hw) (by decide) (g := (mkF m 68 #[.val (.long q0), .second, .val (.int p2), .val (.int p3), .val (.int p4), .val (.long q5), .second, .val (.int p7), .val (.int (1 : Int32)), .val (.int ((2 : Int32) + ((p3 &&& (2147483647 : Int32)) % (99 : Int32)))), .val (.long ((((p2 &&& (1023 : Int32)) + (1 : Int32)).toInt64) * (((2 : Int32) + ((p3 &&& (2147483647 : Int32)) % (99 : Int32))).toInt64))), .second, .val (.long ((1 : Int64) + (q0 &&& (16777215 : Int64)))), .second, .unset, .unset, .unset, .unset, .unset] [(.int ((2 : Int32) + ((p3 &&& (2147483647 : Int32)) % (99 : Int32)))), (.long ((((p2 &&& (1023 : Int32)) + (1 : Int32)).toInt64) * (((2 : Int32) + ((p3 &&& (2147483647 : Int32)) % (99 : Int32))).toInt64))), (.long ((1 : Int64) + (q0 &&& (16777215 : Int64))))])) rfl (by rw [hml]; rfl) (argsL := [(.long ((1 : Int64) + (q0 &&& (16777215 : Int64)))), (.long ((((p2 &&& (1023 : Int32)) + (1 : Int32)).toInt64) * (((2 : Int32) + ((p3 &&& (2147483647 : Int32)) % (99 : Int32))).toInt64))), (.int ((2 : Int32) + ((p3 &&& (2147483647 : Int32)) % (99 : Int32))))]) (rest := []) (rm_sp l Z a0 hw ((1 : Int64) + (q0 &&& (16777215 : Int64))) (((p2 &&& (1023 : Int32)) + (1 : Int32)).toInt64 * (((2 : Int32) + ((p3 &&& (2147483647 : Int32)) % (99 : Int32))).toInt64)) ((2 : Int32) + ((p3 &&& (2147483647 : Int32)) % (99 : Int32))) _ O0 S1 (own_lim q0).1 (own_lim q0).2 (own_win p2 ((2 : Int32) + ((p3 &&& (2147483647 : Int32)) % (99 : Int32))) (by have := own_sub p3; omega) (own_sub p3).2).1 (own_win p2 ((2 : Int32) + ((p3 &&& (2147483647 : Int32)) % (99 : Int32))) (by have := own_sub p3; omega) (own_sub p3).2).2.1 (own_sub p3).1 (own_sub p3).2 (own_win p2 ((2 : Int32) + ((p3 &&& (2147483647 : Int32)) % (99 : Int32))) (by have := own_sub p3; omega) (own_sub p3).2).2.2) e0 pd__JJI_Lcom_example_span60_span60_limit_SlidingWindow_ rfl rfl (W := 0) (by show 2 * 0 + _ ≤ _; exact Nat.le_of_eq rfl) (hb hby at_68) (by decide) (by decide) (by decide) (by decide)
    have F298 := Fr.app F198 Nq
    have F299 := O0.keep Kq all0
    have F300 := F199.trans Kq all0
    refine own_step (T' := T297) (g' := (mkF m 71 #[.val (.long q0), .second, .val (.int p2), .val (.int p3), .val (.int p4), .val (.long q5), .second, .val (.int p7), .val (.int (1 : Int32)), .val (.int ((2 : Int32) + ((p3 &&& (2147483647 : Int32)) % (99 : Int32)))), .val (.long ((((p2 &&& (1023 : Int32)) + (1 : Int32)).toInt64) * (((2 : Int32) + ((p3 &&& (2147483647 : Int32)) % (99 : Int32))).toInt64))), .second, .val (.long ((1 : Int64) + (q0 &&& (16777215 : Int64)))), .second, .unset, .unset, .unset, .unset, .unset] [(.ref win)])) (fun _ kk => st297 _ kk) ?_
    refine own_step (T' := T297) (g' := (mkF m 85 #[.val (.long q0), .second, .val (.int p2), .val (.int p3), .val (.int p4), .val (.long q5), .second, .val (.int p7), .val (.int (1 : Int32)), .val (.int ((2 : Int32) + ((p3 &&& (2147483647 : Int32)) % (99 : Int32)))), .val (.long ((((p2 &&& (1023 : Int32)) + (1 : Int32)).toInt64) * (((2 : Int32) + ((p3 &&& (2147483647 : Int32)) % (99 : Int32))).toInt64))), .second, .val (.long ((1 : Int64) + (q0 &&& (16777215 : Int64)))), .second, .unset, .unset, .unset, .unset, .unset] [(.ref win)])) (fun _ kk => XS.goto X297.here hx rfl (pc0 := 71) (pc' := 85) rfl (hb hby at_71) (by decide) (by decide) kk) ?_
    exact seg _ _ _ _ _ _ _ _ X297 e297 F298 F299 Oq Fq (by have := own_sub p3; omega) (own_sub p3).2

set_option maxRecDepth 65536 in
set_option maxHeartbeats 40000000 in
theorem comes_1 {Post : Tables → Env → Array Value → State → Outcome → State → Prop} (hpost : ∀ tb e args s v u, (limb_1_1.after args s (.returned v) u = true ∧ limb_1_2.after args s (.returned v) u = true ∧ True) → FrameEnd s (.returned v) u (Jvm.fieldLocs frame_1_writes args s ++ Jvm.arrayLocs frame_1_arrays args s ++ Jvm.staticLocs frame_1_statics s) 16 384 → Post tb e args s (.returned v) u) :
    ArmFor flags0 classFile x code maxLocals ret World_1 tables_1 room_1 Calls_1 rest_1 Pre_1 Post := by
  intro l hfl _ _ p e ha hc hk s m args below hf hA hF happ hP
  obtain ⟨hcalls, hrest, hpre⟩ := hP
  obtain ⟨-, -, -, hnamed, -, -, -, hat⟩ := (Spec.applies_iff hf).mp happ
  obtain ⟨hg, hn⟩ := and_e (Cond.before_iff.mp (show (Jvm.Cond.and given_1 narrow_1).before args s = true from hpre))
  obtain ⟨h1, hg⟩ := and_e hg
  obtain ⟨h2, hg⟩ := and_e hg
  obtain ⟨h3, hg⟩ := and_e hg
  obtain ⟨h4, hg⟩ := and_e hg
  obtain ⟨h5, hg⟩ := and_e hg
  obtain ⟨h6, h7⟩ := and_e hg
  obtain ⟨w0, w1, w2, w3, w4, w5, rfl⟩ : ∃ w0 w1 w2 w3 w4 w5 : Value, args = #[w0, w1, w2, w3, w4, w5] := by
    have hs : args.size = 6 := by simpa [Cond.value, given_1] using h1
    obtain ⟨L⟩ := args
    match L, hs with
    | [w0, w1, w2, w3, w4, w5], _ => exact ⟨w0, w1, w2, w3, w4, w5, rfl⟩
  have hw := fun d (hd : d ∈ tables_1) => atoms_spec (ws := Jvm.Cond.code x code maxLocals ret :: tables_1) hat d (List.mem_cons_of_mem _ hd)
  have hfit : Fit s := fun {y c} hc i hi => by
    obtain ⟨ha, rfl⟩ := Array.getElem?_eq_some_iff.mp hc
    have q := List.all_eq_true.mp ((Array.all_eq_true_iff_forall_mem.mp hF) _ (Array.getElem_mem ha)) i (List.mem_range.mpr hi)
    simpa [Array.getElem?_eq_getElem hi] using q
  obtain ⟨i0, e0⟩ := isL_v h2
  obtain rfl : w0 = (.long i0) := Option.some.inj e0
  obtain ⟨i1, e1⟩ := is_v h3
  obtain rfl : w1 = (.int i1) := Option.some.inj e1
  obtain ⟨i2, e2⟩ := is_v h4
  obtain rfl : w2 = (.int i2) := Option.some.inj e2
  obtain ⟨i3, e3⟩ := is_v h5
  obtain rfl : w3 = (.int i3) := Option.some.inj e3
  obtain ⟨i4, e4⟩ := isL_v h6
  obtain rfl : w4 = (.long i4) := Option.some.inj e4
  obtain ⟨i5, e5⟩ := is_v h7
  obtain rfl : w5 = (.int i5) := Option.some.inj e5
  obtain ⟨vs, ev, hv⟩ := static_fit (args := #[.long i0, .int i1, .int i2, .int i3, .long i4, .int i5]) hfit (w25 hw) (ty := .long) (by decide)
  obtain ⟨xx, rfl⟩ := fit_J hv
  have ev2 : xx = 9007199254740 := gotT (eq_L ev (long_at _)) hn
  subst ev2
  have S1 : Sta s s.heap "com/example/span60/span60/limit/WindowLimit" "MAX_WINDOW_SECONDS" "J" (.long (9007199254740 : Int64)) := Sta.start ev (Or.inr ⟨w13 hw, w25 hw⟩)
  obtain ⟨n, o, g1, g2, g3, _, L, rfl, ⟨rfl, N⟩, hq⟩ := rm_law l s _ hw i0 i1 i2 i3 i4 i5 s.heap (Old.start s) S1 tables_1 p e ha hc hk s m _ below hf ((Spec.applies_iff_loose hf).mp happ).1 ⟨rfl, State.Warmed39.refl s, rfl⟩ trivial
  refine ⟨n, _, g1, g2, g3, hpost _ _ _ _ _ _ ⟨Cond.after_iff.mpr rfl, Cond.after_iff.mpr (eq_i res_at (Term.int_eval (1)) rfl), trivial⟩ ⟨hq.1, hq.2.1, (hq.2.2.sift fun y hy => Or.inr (N y hy)).mono (by decide) (by decide)⟩⟩
theorem main_1_1 : Claimed_1_1 := comes_1 fun _ _ _ _ _ _ h hF => ⟨h.1, hF⟩
theorem main_1_2 : Claimed_1_2 := comes_1 fun _ _ _ _ _ _ h hF => ⟨h.2.1, hF⟩

end Jvm.Pilot.@@N@@
namespace Jvm.Pilot.@@N@@
open Jvm Jvm.ClassFile Sem Op Lib Jvm.Free Jvm.Stand Jvm.Pilot.@@N@@.Jvm.D
/-! MADE BY PROGRAM (witnessworld.py) out of the Statement's table words and the real class files: 15 classes; the members and pool entries that the words name. The judged class is class 1, her method 1. -/
namespace start1
open Jvm.ClassFile
def u (s : String) : CpInfo := .utf8 (stringToUtf16 s)
/-- a pool by its gaps: so many unusable entries, then the entry; so many at the end -/
def gap : Nat → List CpInfo → List CpInfo
  | 0, r => r
  | n + 1, r => .unusable :: gap n r
def poolList (es : List (Nat × CpInfo)) (last : Nat) : List CpInfo := es.foldr (fun e r => gap e.1 (e.2 :: r)) (gap last [])
def pool (es : List (Nat × CpInfo)) (last : Nat) : Array CpInfo := ⟨poolList es last⟩
def fileOf (pool : Array CpInfo) (this : Nat) (attrs : Array Attribute := #[]) (ms : Array MethodInfo := #[]) (fl : Nat := 33) (sup : Nat := 0) (ifs : Array Nat := #[]) (fds : Array FieldInfo := #[]) : ClassFile where
  minorVersion := 0
  majorVersion := 65
  constantPool := pool
  accessFlags := fl
  thisClass := this
  superClass := sup
  interfaces := ifs
  fields := fds
  methods := ms
  attributes := attrs
def plain (name : String) (sup : Option ClassId) : Class where
  name := name
  kind := .ordinary
  loader := none
  accessFlags := 33
  super := sup
  interfaces := #[]
  cf := none
  fields := #[]
  methods := #[]
  instanceTypes := #[]
  staticTypes := #[]
  resolved := #[]
  callSites := []
  init := .initialized
  statics := none
  mirror := none

def pool0 : Array CpInfo := pool [(5, u "<init>"), (0, u "()V"), (1, .class_ 10), (1, u "java/lang/Object")] 113

def k0c0 : Code := { maxStack := 0, maxLocals := 1, code := object_method_1_code, exceptionTable := #[], attributes := #[] }
def k0m0 : Method := { name := "<init>", desc := "()V", sig := { parameters := [], returnType := none }, accessFlags := 1, code := some k0c0 }
/-- java/lang/Object -/
def k0 : Class := { plain "java/lang/Object" none with
  accessFlags := 33
  interfaces := #[]
  cf := some (fileOf pool0 8 #[] #[{ accessFlags := 1, nameIndex := 5, descriptorIndex := 6, attributes := #[] }] 33 0 #[] #[])
  fields := #[]
  methods := #[k0m0]
  instanceTypes := #[]
  staticTypes := #[]
  resolved := Array.replicate 124 none
  statics := none }

def pool1 : Array CpInfo := pool [(2, .class_ 4), (1, u "java/lang/Object"), (0, u "<init>"), (0, u "()V"), (0, .integer 2147483647), (0, .long 16777215), (1, .methodref 11 12), (0, .class_ 13), (0, .nameAndType 14 15), (0, u "com/example/span60/span60/limit/SlidingWindow"), (0, u "split"), (0, u "(JJI)Lcom/example/span60/span60/limit/SlidingWindow;"), (0, .methodref 11 17), (0, .nameAndType 5 18), (0, u "(JJ)V"), (0, .methodref 11 20), (0, .nameAndType 21 22), (0, u "newState"), (0, u "(J)Lcom/example/span60/span60/limit/SlidingWindow$State;"), (0, .class_ 24), (0, u "com/example/span60/span60/limit/SlidingWindow$State"), (0, .methodref 23 26), (0, .nameAndType 5 27), (0, u "([JJ)V"), (0, .methodref 11 29), (0, .nameAndType 30 31), (0, u "keeps"), (0, u "(Lcom/example/span60/span60/limit/Algorithm$State;)Z"), (0, .class_ 33), (0, u "com/example/span60/span60/limit/SlidingWindowKeepsPinLaw"), (2, u "law"), (0, u "(JIIIJI)Z")] 9

def k1m0 : Method := { name := "<init>", desc := "()V", sig := { parameters := [], returnType := none }, accessFlags := 1, code := none }
def k1c1 : Code := { maxStack := 6, maxLocals := 19, code := code, exceptionTable := #[], attributes := #[] }
def k1m1 : Method := { name := "law", desc := "(JIIIJI)Z", sig := { parameters := [.long, .int, .int, .int, .long, .int], returnType := some .boolean }, accessFlags := 9, code := some k1c1 }
/-- com/example/span60/span60/limit/SlidingWindowKeepsPinLaw -/
def k1 : Class := { plain "com/example/span60/span60/limit/SlidingWindowKeepsPinLaw" (some 0) with
  accessFlags := 49
  interfaces := #[]
  cf := some (fileOf pool1 32 #[] #[{ accessFlags := 1, nameIndex := 5, descriptorIndex := 6, attributes := #[] }, { accessFlags := 9, nameIndex := 36, descriptorIndex := 37, attributes := #[] }] 49 2 #[] #[])
  fields := #[]
  methods := #[k1m0, k1m1]
  instanceTypes := #[]
  staticTypes := #[]
  resolved := Array.replicate 47 none
  statics := none }

def pool2 : Array CpInfo := pool [(1, .methodref 2 3), (0, .class_ 4), (0, .nameAndType 5 6), (0, u "java/lang/Object"), (0, u "<init>"), (0, u "()V"), (1, .class_ 10), (1, u "com/example/span60/span60/limit/Algorithm"), (18, .long 9007199254740), (7, u "MILLIS_PER_SECOND"), (0, u "J"), (3, u "MAX_EXACT"), (26, .class_ 70), (0, u "com/example/span60/span60/limit/Algorithm$State"), (1, u "maxPerPeriod"), (0, u "(J)J")] 6

def k2c0 : Code := { maxStack := 1, maxLocals := 1, code := prog_6_method_1_code, exceptionTable := #[], attributes := #[] }
def k2m0 : Method := { name := "<init>", desc := "()V", sig := { parameters := [], returnType := none }, accessFlags := 0, code := some k2c0 }
def k2c1 : Code := { maxStack := 4, maxLocals := 2, code := prog_6_method_13_code, exceptionTable := #[], attributes := #[] }
def k2m1 : Method := { name := "maxPerPeriod", desc := "(J)J", sig := { parameters := [.long], returnType := some .long }, accessFlags := 8, code := some k2c1 }
/-- com/example/span60/span60/limit/Algorithm -/
def k2 : Class := { plain "com/example/span60/span60/limit/Algorithm" (some 0) with
  accessFlags := 1057
  interfaces := #[]
  cf := some (fileOf pool2 8 #[.nestMembers #[69]] #[{ accessFlags := 0, nameIndex := 5, descriptorIndex := 6, attributes := #[] }, { accessFlags := 8, nameIndex := 72, descriptorIndex := 73, attributes := #[] }] 1057 2 #[] #[{ accessFlags := 24, nameIndex := 37, descriptorIndex := 38, attributes := #[] }, { accessFlags := 24, nameIndex := 42, descriptorIndex := 38, attributes := #[] }])
  fields := #[{ name := "MILLIS_PER_SECOND", type := .long, accessFlags := 24, slot := 0, constantValue := 0 }, { name := "MAX_EXACT", type := .long, accessFlags := 24, slot := 1, constantValue := 0 }]
  methods := #[k2m0, k2m1]
  instanceTypes := #[]
  staticTypes := #[.long, .long]
  resolved := Array.replicate 80 none
  statics := none }

def pool3 : Array CpInfo := pool [(1, .class_ 2), (0, u "com/example/span60/span60/limit/Algorithm"), (0, .methodref 1 4), (0, .nameAndType 5 6), (0, u "<init>"), (0, u "()V"), (7, .class_ 15), (0, u "com/example/span60/span60/limit/WindowLimit"), (0, .long 9007199254740991), (1, .fieldref 14 19), (0, .nameAndType 20 21), (0, u "MAX_WINDOW_SECONDS"), (0, u "J"), (4, .fieldref 14 27), (0, .nameAndType 28 21), (0, u "limit"), (0, .fieldref 14 30), (0, .nameAndType 31 21), (0, u "windowSeconds"), (0, .long 1000), (1, .fieldref 14 35), (0, .nameAndType 36 21), (0, u "windowMillis"), (34, u "MAX_LIMIT"), (1, u "(JJ)V"), (4, u "()J"), (1, u "getWindowMillis")] 27

def k3c0 : Code := { maxStack := 5, maxLocals := 5, code := prog_44_method_1_code, exceptionTable := #[], attributes := #[] }
def k3m0 : Method := { name := "<init>", desc := "(JJ)V", sig := { parameters := [.long, .long], returnType := none }, accessFlags := 0, code := some k3c0 }
def k3c1 : Code := { maxStack := 2, maxLocals := 1, code := prog_44_method_4_code, exceptionTable := #[], attributes := #[] }
def k3m1 : Method := { name := "getWindowMillis", desc := "()J", sig := { parameters := [], returnType := some .long }, accessFlags := 0, code := some k3c1 }
/-- com/example/span60/span60/limit/WindowLimit -/
def k3 : Class := { plain "com/example/span60/span60/limit/WindowLimit" (some 2) with
  accessFlags := 1057
  interfaces := #[]
  cf := some (fileOf pool3 14 #[] #[{ accessFlags := 0, nameIndex := 5, descriptorIndex := 73, attributes := #[] }, { accessFlags := 0, nameIndex := 80, descriptorIndex := 78, attributes := #[] }] 1057 1 #[] #[{ accessFlags := 25, nameIndex := 71, descriptorIndex := 21, attributes := #[] }, { accessFlags := 25, nameIndex := 20, descriptorIndex := 21, attributes := #[] }, { accessFlags := 18, nameIndex := 28, descriptorIndex := 21, attributes := #[] }, { accessFlags := 18, nameIndex := 31, descriptorIndex := 21, attributes := #[] }, { accessFlags := 18, nameIndex := 36, descriptorIndex := 21, attributes := #[] }])
  fields := #[{ name := "MAX_LIMIT", type := .long, accessFlags := 25, slot := 0, constantValue := 0 }, { name := "MAX_WINDOW_SECONDS", type := .long, accessFlags := 25, slot := 1, constantValue := 0 }, { name := "limit", type := .long, accessFlags := 18, slot := 0, constantValue := 0 }, { name := "windowSeconds", type := .long, accessFlags := 18, slot := 1, constantValue := 0 }, { name := "windowMillis", type := .long, accessFlags := 18, slot := 2, constantValue := 0 }]
  methods := #[k3m0, k3m1]
  instanceTypes := #[.long, .long, .long]
  staticTypes := #[.long, .long]
  resolved := Array.replicate 108 none
  statics := some 0 }

def pool4 : Array CpInfo := pool [(1, .methodref 2 3), (0, .class_ 4), (0, .nameAndType 5 6), (0, u "com/example/span60/span60/limit/SlidingWindow"), (0, u "<init>"), (0, u "(JJI)V"), (7, .methodref 15 16), (0, .class_ 17), (0, .nameAndType 5 18), (0, u "com/example/span60/span60/limit/WindowLimit"), (0, u "(JJ)V"), (0, .methodref 2 20), (0, .nameAndType 21 22), (0, u "maxLimit"), (0, u "(J)J"), (0, .fieldref 2 24), (0, .nameAndType 25 26), (0, u "mostCounted"), (0, u "J"), (4, .methodref 2 32), (0, .nameAndType 33 34), (0, u "getWindowMillis"), (0, u "()J"), (2, .fieldref 2 38), (0, .nameAndType 39 40), (0, u "subWindows"), (0, u "I"), (0, .fieldref 2 42), (0, .nameAndType 43 26), (0, u "subWindowMillis"), (0, .fieldref 2 45), (0, .nameAndType 46 26), (0, u "oldestHeldMillis"), (0, .methodref 2 48), (0, .nameAndType 49 22), (0, u "maxPerPeriod"), (0, .class_ 51), (0, u "com/example/span60/span60/limit/SlidingWindow$State"), (0, .methodref 50 53), (0, .nameAndType 5 54), (0, u "([JJ)V"), (0, .fieldref 50 56), (0, .nameAndType 57 58), (0, u "counts"), (0, u "[J"), (97, u "newState"), (0, u "(J)Lcom/example/span60/span60/limit/SlidingWindow$State;"), (0, u "MAX_SUB_WINDOWS"), (4, u "split"), (0, u "(JJI)Lcom/example/span60/span60/limit/SlidingWindow;"), (2, u "keeps"), (0, u "(Lcom/example/span60/span60/limit/Algorithm$State;)Z")] 21

def k4c0 : Code := { maxStack := 6, maxLocals := 5, code := prog_33_method_1_code, exceptionTable := #[], attributes := #[] }
def k4m0 : Method := { name := "<init>", desc := "(JJ)V", sig := { parameters := [.long, .long], returnType := none }, accessFlags := 1, code := some k4c0 }
def k4c1 : Code := { maxStack := 7, maxLocals := 5, code := prog_33_method_2_code, exceptionTable := #[], attributes := #[] }
def k4m1 : Method := { name := "split", desc := "(JJI)Lcom/example/span60/span60/limit/SlidingWindow;", sig := { parameters := [.long, .long, .int], returnType := some (.object "com/example/span60/span60/limit/SlidingWindow") }, accessFlags := 9, code := some k4c1 }
def k4c2 : Code := { maxStack := 5, maxLocals := 6, code := prog_33_method_3_code, exceptionTable := #[], attributes := #[] }
def k4m2 : Method := { name := "<init>", desc := "(JJI)V", sig := { parameters := [.long, .long, .int], returnType := none }, accessFlags := 2, code := some k4c2 }
def k4c3 : Code := { maxStack := 2, maxLocals := 2, code := prog_33_method_4_code, exceptionTable := #[], attributes := #[] }
def k4m3 : Method := { name := "maxLimit", desc := "(J)J", sig := { parameters := [.long], returnType := some .long }, accessFlags := 9, code := some k4c3 }
def k4c4 : Code := { maxStack := 5, maxLocals := 3, code := prog_33_method_6_code, exceptionTable := #[], attributes := #[] }
def k4m4 : Method := { name := "newState", desc := "(J)Lcom/example/span60/span60/limit/SlidingWindow$State;", sig := { parameters := [.long], returnType := some (.object "com/example/span60/span60/limit/SlidingWindow$State") }, accessFlags := 0, code := some k4c4 }
def k4c5 : Code := { maxStack := 3, maxLocals := 2, code := prog_33_method_7_code, exceptionTable := #[], attributes := #[] }
def k4m5 : Method := { name := "keeps", desc := "(Lcom/example/span60/span60/limit/Algorithm$State;)Z", sig := { parameters := [(.object "com/example/span60/span60/limit/Algorithm$State")], returnType := some .boolean }, accessFlags := 0, code := some k4c5 }
/-- com/example/span60/span60/limit/SlidingWindow -/
def k4 : Class := { plain "com/example/span60/span60/limit/SlidingWindow" (some 3) with
  accessFlags := 33
  interfaces := #[]
  cf := some (fileOf pool4 2 #[.nestMembers #[50]] #[{ accessFlags := 1, nameIndex := 5, descriptorIndex := 18, attributes := #[] }, { accessFlags := 9, nameIndex := 163, descriptorIndex := 164, attributes := #[] }, { accessFlags := 2, nameIndex := 5, descriptorIndex := 6, attributes := #[] }, { accessFlags := 9, nameIndex := 21, descriptorIndex := 22, attributes := #[] }, { accessFlags := 0, nameIndex := 156, descriptorIndex := 157, attributes := #[] }, { accessFlags := 0, nameIndex := 167, descriptorIndex := 168, attributes := #[] }] 33 15 #[] #[{ accessFlags := 25, nameIndex := 158, descriptorIndex := 40, attributes := #[] }, { accessFlags := 18, nameIndex := 25, descriptorIndex := 26, attributes := #[] }, { accessFlags := 18, nameIndex := 39, descriptorIndex := 40, attributes := #[] }, { accessFlags := 18, nameIndex := 43, descriptorIndex := 26, attributes := #[] }, { accessFlags := 18, nameIndex := 46, descriptorIndex := 26, attributes := #[] }])
  fields := #[{ name := "MAX_SUB_WINDOWS", type := .int, accessFlags := 25, slot := 0, constantValue := 0 }, { name := "mostCounted", type := .long, accessFlags := 18, slot := 3, constantValue := 0 }, { name := "subWindows", type := .int, accessFlags := 18, slot := 4, constantValue := 0 }, { name := "subWindowMillis", type := .long, accessFlags := 18, slot := 5, constantValue := 0 }, { name := "oldestHeldMillis", type := .long, accessFlags := 18, slot := 6, constantValue := 0 }]
  methods := #[k4m0, k4m1, k4m2, k4m3, k4m4, k4m5]
  instanceTypes := #[.long, .long, .long, .long, .int, .long, .long]
  staticTypes := #[.int]
  resolved := (Array.replicate 190 none).setIfInBounds 55 (some (.field 6 0))
  statics := none }

def pool5 : Array CpInfo := pool [(1, .methodref 2 3), (0, .class_ 4), (0, .nameAndType 5 6), (0, u "java/lang/Object"), (0, u "<init>"), (0, u "()V"), (0, .class_ 8), (0, u "com/example/span60/span60/limit/Algorithm$State"), (0, u "wholeAgainMillis"), (0, u "J"), (0, u "forgotten"), (0, u "Z"), (5, .class_ 19), (0, u "com/example/span60/span60/limit/Algorithm")] 2

def k5c0 : Code := { maxStack := 1, maxLocals := 1, code := prog_7_method_1_code, exceptionTable := #[], attributes := #[] }
def k5m0 : Method := { name := "<init>", desc := "()V", sig := { parameters := [], returnType := none }, accessFlags := 0, code := some k5c0 }
/-- com/example/span60/span60/limit/Algorithm$State -/
def k5 : Class := { plain "com/example/span60/span60/limit/Algorithm$State" (some 0) with
  accessFlags := 1056
  interfaces := #[]
  cf := some (fileOf pool5 7 #[.nestHost 18] #[{ accessFlags := 0, nameIndex := 5, descriptorIndex := 6, attributes := #[] }] 1056 2 #[] #[{ accessFlags := 0, nameIndex := 9, descriptorIndex := 10, attributes := #[] }, { accessFlags := 0, nameIndex := 11, descriptorIndex := 12, attributes := #[] }])
  fields := #[{ name := "wholeAgainMillis", type := .long, accessFlags := 0, slot := 0, constantValue := 0 }, { name := "forgotten", type := .boolean, accessFlags := 0, slot := 1, constantValue := 0 }]
  methods := #[k5m0]
  instanceTypes := #[.long, .boolean]
  staticTypes := #[]
  resolved := Array.replicate 22 none
  statics := none }

def pool6 : Array CpInfo := pool [(1, .methodref 2 3), (0, .class_ 4), (0, .nameAndType 5 6), (0, u "com/example/span60/span60/limit/Algorithm$State"), (0, u "<init>"), (0, u "()V"), (0, .fieldref 8 9), (0, .class_ 10), (0, .nameAndType 11 12), (0, u "com/example/span60/span60/limit/SlidingWindow$State"), (0, u "counts"), (0, u "[J"), (0, .fieldref 8 14), (0, .nameAndType 15 16), (0, u "at"), (0, u "J"), (12, u "([JJ)V"), (8, .class_ 39), (0, u "com/example/span60/span60/limit/SlidingWindow")] 4

def k6c0 : Code := { maxStack := 3, maxLocals := 4, code := prog_34_method_1_code, exceptionTable := #[], attributes := #[] }
def k6m0 : Method := { name := "<init>", desc := "([JJ)V", sig := { parameters := [(.array .long), .long], returnType := none }, accessFlags := 0, code := some k6c0 }
/-- com/example/span60/span60/limit/SlidingWindow$State -/
def k6 : Class := { plain "com/example/span60/span60/limit/SlidingWindow$State" (some 5) with
  accessFlags := 32
  interfaces := #[]
  cf := some (fileOf pool6 8 #[.nestHost 38] #[{ accessFlags := 0, nameIndex := 5, descriptorIndex := 29, attributes := #[] }] 32 2 #[] #[{ accessFlags := 18, nameIndex := 11, descriptorIndex := 12, attributes := #[] }, { accessFlags := 2, nameIndex := 15, descriptorIndex := 16, attributes := #[] }])
  fields := #[{ name := "counts", type := (.array .long), accessFlags := 18, slot := 2, constantValue := 0 }, { name := "at", type := .long, accessFlags := 2, slot := 3, constantValue := 0 }]
  methods := #[k6m0]
  instanceTypes := #[.long, .boolean, (.array .long), .long]
  staticTypes := #[]
  resolved := Array.replicate 44 none
  statics := none }

def pool7 : Array CpInfo := pool [(1, u "java/lang/Cloneable"), (0, .class_ 1), (0, u "java/lang/Object"), (0, .class_ 3)] 3

/-- java/lang/Cloneable -/
def k7 : Class := { plain "java/lang/Cloneable" (some 0) with
  accessFlags := 1537
  interfaces := #[]
  cf := some (fileOf pool7 2 #[] #[] 1537 4 #[] #[])
  fields := #[]
  methods := #[]
  instanceTypes := #[]
  staticTypes := #[]
  resolved := Array.replicate 8 none
  statics := none }

def pool8 : Array CpInfo := pool [(1, u "java/io/Serializable"), (0, .class_ 1), (0, u "java/lang/Object"), (0, .class_ 3)] 3

/-- java/io/Serializable -/
def k8 : Class := { plain "java/io/Serializable" (some 0) with
  accessFlags := 1537
  interfaces := #[]
  cf := some (fileOf pool8 2 #[] #[] 1537 4 #[] #[])
  fields := #[]
  methods := #[]
  instanceTypes := #[]
  staticTypes := #[]
  resolved := Array.replicate 8 none
  statics := none }

/-- the primitive byte -/
def k9 : Class := { plain "byte" none with kind := .primitive 'B', accessFlags := 0x411 }
/-- [B -/
def k10 : Class := { plain "[B" (some 0) with kind := .array 9 .byte, interfaces := #[7, 8], accessFlags := 1041 }

/-- the primitive int -/
def k11 : Class := { plain "int" none with kind := .primitive 'I', accessFlags := 0x411 }
/-- [I -/
def k12 : Class := { plain "[I" (some 0) with kind := .array 11 .int, interfaces := #[7, 8], accessFlags := 1041 }

/-- the primitive long -/
def k13 : Class := { plain "long" none with kind := .primitive 'J', accessFlags := 0x411 }
/-- [J -/
def k14 : Class := { plain "[J" (some 0) with kind := .array 13 .long, interfaces := #[7, 8], accessFlags := 1041 }

def heap : Heap := #[{ cls := 3, slots := #[.long 0, .long 9007199254740], vm := .statics 3 }]
def classes : Array Class := #[k0, k1, k2, k3, k4, k5, k6, k7, k8, k9, k10, k11, k12, k13, k14]
def interned : List (Array UInt16 × Addr) := []
def slotsUsed : Nat := 2
def theMethod : MethodId := ⟨1, 1⟩
def args0 : Array Value := #[.long 5, .int 3, .int 4, .int 5, .long 7, .int 6]
def aboutOver (below : List Frame) : State where
  vm := { classes := classes, interned := interned.toArray }
  heap := heap
  slotsUsed := slotsUsed
  threads := #[{ frames := .invoking theMethod args0 :: below }]
def below0 : List Frame := [.native { method := ⟨0, 0⟩, args := #[] }]
def about1 : State := aboutOver below0
def p0 : Program := .bare "" "" ""
def e0 : Env := launch0.env 0 0 0
theorem w_frames : about1.frames = Frame.invoking theMethod args0 :: below0 := rfl
set_option maxRecDepth 65536 in
theorem w_args : argsFit about1.vm theMethod args0 = true := by decide +kernel
set_option maxRecDepth 65536 in
theorem w_heap : heapFits about1 = true := by decide +kernel
set_option maxRecDepth 65536 in
theorem w_runnable : about1.curStatus? = some .runnable := by decide +kernel
set_option maxRecDepth 65536 in
theorem w_alone : about1.alone = true := by decide +kernel
set_option maxRecDepth 65536 in
theorem w_named : about1.methodNamed? x = some theMethod := by decide +kernel
set_option maxRecDepth 65536 in
theorem w_hears : about1.hears theMethod below0 = true := by decide +kernel
set_option maxRecDepth 65536 in
theorem w_ripe : about1.ripe theMethod args0 below0 = true := by decide +kernel
theorem w_running : about1.status = .running := rfl
set_option maxRecDepth 65536 in
theorem w_room : about1.hasRoom e0.platform room_1 = true :=
  launch0.hasRoom_least _ room_1 (by decide +kernel) (by decide +kernel) (by decide +kernel) (by decide +kernel) (by decide +kernel) (by decide +kernel)
theorem allAtoms_all (ts : List Jvm.Cond) (a : Array Jvm.Value) (st : Jvm.State) : (allAtoms ts).before a st = ts.all (fun c => c.before a st) := by
  induction ts with
  | nil => rfl
  | cons c t ih =>
    show (Jvm.Cond.and c (allAtoms t)).before a st = _
    rw [Jvm.Cond.before_and, ih, List.all_cons]
def words1 : List Jvm.Cond := Jvm.Cond.code x code maxLocals ret :: tables_1
/-- a 'code' word, met by the world's own term for the bytes: nothing is compared byte by byte -/
theorem code_word {y : MethodName} {bytes : ByteArray} {mx : Nat} {rt : Option FieldType} {a : Array Value} {s : State} {m : MethodId} {meth : Method} {c : Code} (h1 : s.methodNamed? y = some m) (h2 : s.vm.method? m = some meth) (h3 : meth.code = some c) (h4 : c.code = bytes)
    (h5 : (c.maxLocals == mx && c.exceptionTable.isEmpty && decide (c.maxStack ≤ mostOperands) && decide (meth.sig.returnType = rt) && !meth.locks && decide (parseMethodDescriptor y.desc = some meth.sig)) = true) : (Jvm.Cond.code y bytes mx rt).before a s = true := by
  simp only [Bool.and_eq_true, beq_iff_eq, Bool.not_eq_true', decide_eq_true_eq] at h5
  obtain ⟨⟨⟨⟨⟨g1, g2⟩, g3⟩, g4⟩, g5⟩, g6⟩ := h5
  simp [Cond.before, Cond.holds, Cond.value, h1, h2, h3, h4, g1, g2, g3, g4, g5, g6]
def isCode : Jvm.Cond → Bool
  | .code _ _ _ _ => true
  | _ => false
theorem all_split {L : List Jvm.Cond} {P : Jvm.Cond → Bool} (h1 : L.all (fun c => isCode c || P c) = true) (h2 : ∀ c ∈ L.filter isCode, P c = true) : L.all P = true := by
  refine List.all_eq_true.mpr fun c hc => ?_
  have h := List.all_eq_true.mp h1 c hc
  rcases Bool.eq_false_or_eq_true (isCode c) with hi | hi
  · exact h2 c (List.mem_filter.mpr ⟨hc, hi⟩)
  · simpa [hi] using h
set_option maxRecDepth 65536 in
theorem w_c0 : (Jvm.Cond.code x code maxLocals ret).before args0 about1 = true := code_word (m := ⟨1, 1⟩) (meth := k1m1) (c := k1c1) (by decide +kernel) rfl rfl rfl (by decide +kernel)
set_option maxRecDepth 65536 in
theorem w_c1 : (Jvm.Cond.code ({ cls := "com/example/span60/span60/limit/SlidingWindow", name := "<init>", desc := "(JJ)V" } : Jvm.MethodName) prog_33_method_1_code (5 : Nat) (Option.none : Option Jvm.ClassFile.FieldType)).before args0 about1 = true := code_word (m := ⟨4, 0⟩) (meth := k4m0) (c := k4c0) (by decide +kernel) rfl rfl rfl (by decide +kernel)
set_option maxRecDepth 65536 in
theorem w_c2 : (Jvm.Cond.code ({ cls := "com/example/span60/span60/limit/SlidingWindow", name := "<init>", desc := "(JJI)V" } : Jvm.MethodName) prog_33_method_3_code (6 : Nat) (Option.none : Option Jvm.ClassFile.FieldType)).before args0 about1 = true := code_word (m := ⟨4, 2⟩) (meth := k4m2) (c := k4c2) (by decide +kernel) rfl rfl rfl (by decide +kernel)
set_option maxRecDepth 65536 in
theorem w_c3 : (Jvm.Cond.code ({ cls := "com/example/span60/span60/limit/WindowLimit", name := "<init>", desc := "(JJ)V" } : Jvm.MethodName) prog_44_method_1_code (5 : Nat) (Option.none : Option Jvm.ClassFile.FieldType)).before args0 about1 = true := code_word (m := ⟨3, 0⟩) (meth := k3m0) (c := k3c0) (by decide +kernel) rfl rfl rfl (by decide +kernel)
set_option maxRecDepth 65536 in
theorem w_c4 : (Jvm.Cond.code ({ cls := "com/example/span60/span60/limit/Algorithm", name := "<init>", desc := "()V" } : Jvm.MethodName) prog_6_method_1_code (1 : Nat) (Option.none : Option Jvm.ClassFile.FieldType)).before args0 about1 = true := code_word (m := ⟨2, 0⟩) (meth := k2m0) (c := k2c0) (by decide +kernel) rfl rfl rfl (by decide +kernel)
set_option maxRecDepth 65536 in
theorem w_c5 : (Jvm.Cond.code ({ cls := "java/lang/Object", name := "<init>", desc := "()V" } : Jvm.MethodName) object_method_1_code (1 : Nat) (Option.none : Option Jvm.ClassFile.FieldType)).before args0 about1 = true := code_word (m := ⟨0, 0⟩) (meth := k0m0) (c := k0c0) (by decide +kernel) rfl rfl rfl (by decide +kernel)
set_option maxRecDepth 65536 in
theorem w_c6 : (Jvm.Cond.code ({ cls := "com/example/span60/span60/limit/SlidingWindow", name := "maxLimit", desc := "(J)J" } : Jvm.MethodName) prog_33_method_4_code (2 : Nat) (Option.some Jvm.ClassFile.FieldType.long)).before args0 about1 = true := code_word (m := ⟨4, 3⟩) (meth := k4m3) (c := k4c3) (by decide +kernel) rfl rfl rfl (by decide +kernel)
set_option maxRecDepth 65536 in
theorem w_c7 : (Jvm.Cond.code ({ cls := "com/example/span60/span60/limit/Algorithm", name := "maxPerPeriod", desc := "(J)J" } : Jvm.MethodName) prog_6_method_13_code (2 : Nat) (Option.some Jvm.ClassFile.FieldType.long)).before args0 about1 = true := code_word (m := ⟨2, 1⟩) (meth := k2m1) (c := k2c1) (by decide +kernel) rfl rfl rfl (by decide +kernel)
set_option maxRecDepth 65536 in
theorem w_c8 : (Jvm.Cond.code ({ cls := "com/example/span60/span60/limit/WindowLimit", name := "getWindowMillis", desc := "()J" } : Jvm.MethodName) prog_44_method_4_code (1 : Nat) (Option.some Jvm.ClassFile.FieldType.long)).before args0 about1 = true := code_word (m := ⟨3, 1⟩) (meth := k3m1) (c := k3c1) (by decide +kernel) rfl rfl rfl (by decide +kernel)
set_option maxRecDepth 65536 in
theorem w_c9 : (Jvm.Cond.code ({ cls := "com/example/span60/span60/limit/SlidingWindow$State", name := "<init>", desc := "([JJ)V" } : Jvm.MethodName) prog_34_method_1_code (4 : Nat) (Option.none : Option Jvm.ClassFile.FieldType)).before args0 about1 = true := code_word (m := ⟨6, 0⟩) (meth := k6m0) (c := k6c0) (by decide +kernel) rfl rfl rfl (by decide +kernel)
set_option maxRecDepth 65536 in
theorem w_c10 : (Jvm.Cond.code ({ cls := "com/example/span60/span60/limit/Algorithm$State", name := "<init>", desc := "()V" } : Jvm.MethodName) prog_7_method_1_code (1 : Nat) (Option.none : Option Jvm.ClassFile.FieldType)).before args0 about1 = true := code_word (m := ⟨5, 0⟩) (meth := k5m0) (c := k5c0) (by decide +kernel) rfl rfl rfl (by decide +kernel)
set_option maxRecDepth 65536 in
theorem w_c11 : (Jvm.Cond.code ({ cls := "com/example/span60/span60/limit/SlidingWindow", name := "keeps", desc := "(Lcom/example/span60/span60/limit/Algorithm$State;)Z" } : Jvm.MethodName) prog_33_method_7_code (2 : Nat) (Option.some Jvm.ClassFile.FieldType.boolean)).before args0 about1 = true := code_word (m := ⟨4, 5⟩) (meth := k4m5) (c := k4c5) (by decide +kernel) rfl rfl rfl (by decide +kernel)
set_option maxRecDepth 65536 in
theorem w_c12 : (Jvm.Cond.code ({ cls := "com/example/span60/span60/limit/SlidingWindow", name := "split", desc := "(JJI)Lcom/example/span60/span60/limit/SlidingWindow;" } : Jvm.MethodName) prog_33_method_2_code (5 : Nat) (Option.some (Jvm.ClassFile.FieldType.object "com/example/span60/span60/limit/SlidingWindow"))).before args0 about1 = true := code_word (m := ⟨4, 1⟩) (meth := k4m1) (c := k4c1) (by decide +kernel) rfl rfl rfl (by decide +kernel)
set_option maxRecDepth 65536 in
theorem w_c13 : (Jvm.Cond.code ({ cls := "com/example/span60/span60/limit/SlidingWindow", name := "newState", desc := "(J)Lcom/example/span60/span60/limit/SlidingWindow$State;" } : Jvm.MethodName) prog_33_method_6_code (3 : Nat) (Option.some (Jvm.ClassFile.FieldType.object "com/example/span60/span60/limit/SlidingWindow$State"))).before args0 about1 = true := code_word (m := ⟨4, 4⟩) (meth := k4m4) (c := k4c4) (by decide +kernel) rfl rfl rfl (by decide +kernel)
def codes1 : List Jvm.Cond := [Jvm.Cond.code x code maxLocals ret, Jvm.Cond.code ({ cls := "com/example/span60/span60/limit/SlidingWindow", name := "<init>", desc := "(JJ)V" } : Jvm.MethodName) prog_33_method_1_code (5 : Nat) (Option.none : Option Jvm.ClassFile.FieldType), Jvm.Cond.code ({ cls := "com/example/span60/span60/limit/SlidingWindow", name := "<init>", desc := "(JJI)V" } : Jvm.MethodName) prog_33_method_3_code (6 : Nat) (Option.none : Option Jvm.ClassFile.FieldType), Jvm.Cond.code ({ cls := "com/example/span60/span60/limit/WindowLimit", name := "<init>", desc := "(JJ)V" } : Jvm.MethodName) prog_44_method_1_code (5 : Nat) (Option.none : Option Jvm.ClassFile.FieldType), Jvm.Cond.code ({ cls := "com/example/span60/span60/limit/Algorithm", name := "<init>", desc := "()V" } : Jvm.MethodName) prog_6_method_1_code (1 : Nat) (Option.none : Option Jvm.ClassFile.FieldType), Jvm.Cond.code ({ cls := "java/lang/Object", name := "<init>", desc := "()V" } : Jvm.MethodName) object_method_1_code (1 : Nat) (Option.none : Option Jvm.ClassFile.FieldType), Jvm.Cond.code ({ cls := "com/example/span60/span60/limit/SlidingWindow", name := "maxLimit", desc := "(J)J" } : Jvm.MethodName) prog_33_method_4_code (2 : Nat) (Option.some Jvm.ClassFile.FieldType.long), Jvm.Cond.code ({ cls := "com/example/span60/span60/limit/Algorithm", name := "maxPerPeriod", desc := "(J)J" } : Jvm.MethodName) prog_6_method_13_code (2 : Nat) (Option.some Jvm.ClassFile.FieldType.long), Jvm.Cond.code ({ cls := "com/example/span60/span60/limit/WindowLimit", name := "getWindowMillis", desc := "()J" } : Jvm.MethodName) prog_44_method_4_code (1 : Nat) (Option.some Jvm.ClassFile.FieldType.long), Jvm.Cond.code ({ cls := "com/example/span60/span60/limit/SlidingWindow$State", name := "<init>", desc := "([JJ)V" } : Jvm.MethodName) prog_34_method_1_code (4 : Nat) (Option.none : Option Jvm.ClassFile.FieldType), Jvm.Cond.code ({ cls := "com/example/span60/span60/limit/Algorithm$State", name := "<init>", desc := "()V" } : Jvm.MethodName) prog_7_method_1_code (1 : Nat) (Option.none : Option Jvm.ClassFile.FieldType), Jvm.Cond.code ({ cls := "com/example/span60/span60/limit/SlidingWindow", name := "keeps", desc := "(Lcom/example/span60/span60/limit/Algorithm$State;)Z" } : Jvm.MethodName) prog_33_method_7_code (2 : Nat) (Option.some Jvm.ClassFile.FieldType.boolean), Jvm.Cond.code ({ cls := "com/example/span60/span60/limit/SlidingWindow", name := "split", desc := "(JJI)Lcom/example/span60/span60/limit/SlidingWindow;" } : Jvm.MethodName) prog_33_method_2_code (5 : Nat) (Option.some (Jvm.ClassFile.FieldType.object "com/example/span60/span60/limit/SlidingWindow")), Jvm.Cond.code ({ cls := "com/example/span60/span60/limit/SlidingWindow", name := "newState", desc := "(J)Lcom/example/span60/span60/limit/SlidingWindow$State;" } : Jvm.MethodName) prog_33_method_6_code (3 : Nat) (Option.some (Jvm.ClassFile.FieldType.object "com/example/span60/span60/limit/SlidingWindow$State"))]
set_option maxRecDepth 65536 in
theorem codes_eq : words1.filter isCode = codes1 := rfl
theorem w_codes : ∀ c ∈ words1.filter isCode, c.before args0 about1 = true := by
  rw [codes_eq]
  intro c hc
  simp only [codes1, List.mem_cons, List.not_mem_nil, or_false] at hc
  rcases hc with rfl | rfl | rfl | rfl | rfl | rfl | rfl | rfl | rfl | rfl | rfl | rfl | rfl | rfl
  · exact w_c0
  · exact w_c1
  · exact w_c2
  · exact w_c3
  · exact w_c4
  · exact w_c5
  · exact w_c6
  · exact w_c7
  · exact w_c8
  · exact w_c9
  · exact w_c10
  · exact w_c11
  · exact w_c12
  · exact w_c13
set_option maxRecDepth 65536 in
theorem w_t1 : (words1.take 24).all (fun c => isCode c || c.before args0 about1) = true := by decide +kernel
set_option maxRecDepth 65536 in
theorem w_t2 : ((words1.drop 24).take 24).all (fun c => isCode c || c.before args0 about1) = true := by decide +kernel
set_option maxRecDepth 65536 in
theorem w_t3 : (((words1.drop 24).drop 24).take 24).all (fun c => isCode c || c.before args0 about1) = true := by decide +kernel
set_option maxRecDepth 65536 in
theorem w_t4 : (((words1.drop 24).drop 24).drop 24).all (fun c => isCode c || c.before args0 about1) = true := by decide +kernel
theorem w_tables : (allAtoms (Jvm.Cond.code x code maxLocals ret :: tables_1)).before args0 about1 = true := by
  rw [allAtoms_all]
  show words1.all (fun c => c.before args0 about1) = true
  refine all_split ?_ w_codes
  rw [← List.take_append_drop 24 words1, List.all_append, w_t1, ← List.take_append_drop 24 (words1.drop 24), List.all_append, w_t2, ← List.take_append_drop 24 ((words1.drop 24).drop 24), List.all_append, w_t3, w_t4]
  rfl
set_option maxRecDepth 65536 in
theorem w_case : (Jvm.Cond.and given_1 narrow_1).before args0 about1 = true := by decide +kernel
theorem w_applies : (headSpec (Jvm.Cond.code x code maxLocals ret :: tables_1) room_1).applies x e0.platform about1 = true :=
  (Spec.applies_iff w_frames).mpr ⟨w_running, w_runnable, w_alone, w_named, w_hears, w_ripe, w_room, w_tables⟩
theorem atStart : AtStart classFile x code maxLocals ret World_1 tables_1 room_1 Calls_1 rest_1 Pre_1 launch0 p0 e0 about1 theMethod args0 below0 :=
  ⟨lists_1, trivial, launch0.admits_env _ _ _, launch0.least_env, fairChoices_fair.cas, fairChoices_fair.clock, w_frames, w_args, w_heap, w_applies, trivial, trivial, w_case⟩
end start1
theorem witness_1 : WitnessClaimed_1 := ⟨start1.p0, start1.e0, start1.about1, start1.theMethod, start1.args0, start1.below0, start1.atStart⟩
end Jvm.Pilot.@@N@@
